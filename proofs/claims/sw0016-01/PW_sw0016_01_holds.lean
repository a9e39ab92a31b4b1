import PyProof.Rows.All
import Wide.All
import OpenK.AllK
import Wide.FinOn
import PySem.Challenge.RW_sw0016_01
set_option Elab.async false
set_option maxRecDepth 100000
set_option linter.unusedVariables false
set_option linter.unusedSimpArgs false
section
open PySem PySem.W PyProof.Rows
namespace Mine
set_option maxHeartbeats 8000000 in
open_top hd16 for PySem.Challenge.rw_sw0016_01
end Mine
end
/-! text L1 -/
section
open PySem PySem.Calls PySem.W PyProof.Rows
namespace Mine

noncomputable abbrev Prg : Program := PySem.Challenge.pw_sw0016_01
noncomputable abbrev Kp (w : World) : Frag := hd16.heap_39 w.params

/-! heaps kept -/
def KeepX (X : Addr → Prop) (h h' : Heap) : Prop := ∀ b o, ¬ X b → h.get? b = some o → h'.get? b = some o
abbrev Keep (h h' : Heap) : Prop := ∀ b o, h.get? b = some o → h'.get? b = some o
def Inter (L k : Nat) (b : Addr) : Prop := L ≤ b ∧ b ≤ L + k
def KeepS (h h' : Heap) : Prop := ∀ b o xs n, h.get? b = some o → o.data = .seq xs n → h'.get? b = some o

theorem Keep.toS {h h' : Heap} (k : Keep h h') : KeepS h h' := fun b o _ _ e _ => k b o e
theorem Keep.toX {h h' : Heap} {X : Addr → Prop} (k : Keep h h') : KeepX X h h' := fun b o _ e => k b o e
theorem KeepX.trans {X : Addr → Prop} {h h' h'' : Heap} (a : KeepX X h h') (b : KeepX X h' h'') : KeepX X h h'' := fun c o n e => b c o n (a c o n e)
theorem KeepS.trans {h h' h'' : Heap} (a : KeepS h h') (b : KeepS h' h'') : KeepS h h'' := fun c o xs n e d => b c o xs n (a c o xs n e d) d
theorem Keep.trans {h h' h'' : Heap} (a : Keep h h') (b : Keep h' h'') : Keep h h'' := fun c o e => b c o (a c o e)
theorem Keep.push {h : Heap} (o : Obj) : Keep h (h.push o) := fun _ _ e => Heap.get?_push_of_some _ e
theorem new_of_size {h : Heap} : h.get? h.objs.size = none := Heap.get?_none_of_le (Nat.le_refl _)

/-! data on the heap -/
inductive F2 {α β : Type} (R : α → β → Prop) : List α → List β → Prop
  | nil : F2 R [] []
  | cons {a b l m} : R a b → F2 R l m → F2 R (a :: l) (b :: m)
theorem F2.imp {α β : Type} {R S : α → β → Prop} (f : ∀ a b, R a b → S a b) : ∀ {l m}, F2 R l m → F2 S l m
  | _, _, .nil => .nil
  | _, _, .cons h t => .cons (f _ _ h) (t.imp f)
theorem F2.length {α β : Type} {R : α → β → Prop} : ∀ {l m}, F2 R l m → l.length = m.length
  | _, _, .nil => rfl
  | _, _, .cons _ t => by simp [t.length]
theorem F2.append {α β : Type} {R : α → β → Prop} : ∀ {l m l' m'}, F2 R l m → F2 R l' m' → F2 R (l ++ l') (m ++ m')
  | _, _, _, _, .nil, h => h
  | _, _, _, _, .cons a t, h => .cons a (t.append h)
theorem F2.drop {α β : Type} {R : α → β → Prop} : ∀ {l m}, F2 R l m → ∀ k, F2 R (l.drop k) (m.drop k)
  | _, _, h, 0 => h
  | _, _, .nil, _ + 1 => .nil
  | _, _, .cons _ t, k + 1 => t.drop k
theorem F2.take {α β : Type} {R : α → β → Prop} : ∀ {l m}, F2 R l m → ∀ k, F2 R (l.take k) (m.take k)
  | _, _, _, 0 => .nil
  | _, _, .nil, _ + 1 => .nil
  | _, _, .cons a t, k + 1 => .cons a (t.take k)
theorem F2.get {α β : Type} {R : α → β → Prop} : ∀ {l m}, F2 R l m → ∀ {i : Nat} {b}, m[i]? = some b → ∃ a, l[i]? = some a ∧ R a b
  | _, _, .nil, _, _, h => by simp at h
  | _, _, .cons a t, 0, _, h => by simp at h; subst h; exact ⟨_, rfl, a⟩
  | _, _, .cons a t, i + 1, _, h => by simp at h; exact t.get h
theorem F2.get' {α β : Type} {R : α → β → Prop} : ∀ {l m}, F2 R l m → ∀ {i : Nat} {a}, l[i]? = some a → ∃ b, m[i]? = some b ∧ R a b
  | _, _, .nil, _, _, h => by simp at h
  | _, _, .cons a t, 0, _, h => by simp at h; subst h; exact ⟨_, rfl, a⟩
  | _, _, .cons a t, i + 1, _, h => by simp at h; exact t.get' h

abbrev IsN (v : Value) (n : Nat) : Prop := ∃ t, v = .int (n : Int) t
def IsNats (h : Heap) (a : Addr) (ns : List Nat) : Prop := ∃ vs : List Value, h.IsList a vs.toArray ∧ F2 IsN vs ns
def IsRows (h : Heap) (a : Addr) (rows : List (List Nat)) : Prop := ∃ vs : List Value, h.IsList a vs.toArray ∧ F2 (fun v r => ∃ b, v = .ref b ∧ IsNats h b r) vs rows
def IsTrips (h : Heap) (a : Addr) (ts : List (Nat × Nat × Nat)) : Prop :=
  ∃ vs : List Value, h.IsList a vs.toArray ∧ F2 (fun v t => ∃ b t1 t2 t3, v = .ref b ∧ h.IsTuple b #[.int (t.1 : Int) t1, .int (t.2.1 : Int) t2, .int (t.2.2 : Int) t3]) vs ts

theorem islist_keep {h h' : Heap} {a : Addr} {xs : Array Value} (x : h.IsList a xs) (k : KeepS h h') : h'.IsList a xs := let ⟨o, e, c, n, d⟩ := x; ⟨o, k a o xs n e d, c, n, d⟩
theorem istup_keep {h h' : Heap} {a : Addr} {xs : Array Value} (x : h.IsTuple a xs) (k : KeepS h h') : h'.IsTuple a xs := let ⟨o, e, c, n, d⟩ := x; ⟨o, k a o xs n e d, c, n, d⟩
theorem IsNats.keep {h h' : Heap} {a : Addr} {ns : List Nat} (x : IsNats h a ns) (k : KeepS h h') : IsNats h' a ns := let ⟨vs, l, f⟩ := x; ⟨vs, islist_keep l k, f⟩
theorem IsRows.keep {h h' : Heap} {a : Addr} {ns : List (List Nat)} (x : IsRows h a ns) (k : KeepS h h') : IsRows h' a ns :=
  let ⟨vs, l, f⟩ := x; ⟨vs, islist_keep l k, f.imp fun _ _ ⟨b, e, y⟩ => ⟨b, e, y.keep k⟩⟩
theorem IsTrips.keep {h h' : Heap} {a : Addr} {ns : List (Nat × Nat × Nat)} (x : IsTrips h a ns) (k : KeepS h h') : IsTrips h' a ns :=
  let ⟨vs, l, f⟩ := x; ⟨vs, islist_keep l k, f.imp fun _ _ ⟨b, t1, t2, t3, e, y⟩ => ⟨b, t1, t2, t3, e, istup_keep y k⟩⟩

theorem ints_of_nats : ∀ {vs : List Value} {ns : List Nat}, F2 IsN vs ns → IntsAre vs (ns.map Int.ofNat)
  | _, _, .nil => .nil
  | _, _, .cons ⟨t, e⟩ r => by subst e; exact .cons _ t (ints_of_nats r)
theorem nats_of_ints : ∀ {vs : List Value} {ns : List Nat}, IntsAre vs (ns.map Int.ofNat) → F2 IsN vs ns
  | _, [], h => by cases h; exact .nil
  | _, n :: ns, h => by cases h with | cons _ t r => exact .cons ⟨t, rfl⟩ (nats_of_ints r)

/-! the ground -/
def TabOk (o : Obj) : Prop := ∃ ps : Array Value, o.data = .fields ps ∧ TriplesOk ps.toList ∧ o = { cls := .none, data := .fields ps }
/-- the table may only grow -/
def ExtT (h h' : Heap) : Prop := ∀ ps : Array Value, h.get? 79 = some { cls := .none, data := .fields ps } → ∃ more : Array Value, h'.get? 79 = some { cls := .none, data := .fields (ps ++ more) }
theorem ExtT.of_get {h h' : Heap} (k : ∀ o, h.get? 79 = some o → h'.get? 79 = some o) : ExtT h h' := fun ps e => ⟨#[], by rw [Array.append_empty]; exact k _ e⟩
theorem ExtT.trans {h h' h'' : Heap} (a : ExtT h h') (b : ExtT h' h'') : ExtT h h'' := fun ps e => by
  obtain ⟨m, e1⟩ := a ps e
  obtain ⟨m', e2⟩ := b _ e1
  exact ⟨m ++ m', by rw [← Array.append_assoc]; exact e2⟩
structure Bk (H₀ h : Heap) : Prop where
  keep : ∀ b o, b ≠ 79 → H₀.get? b = some o → h.get? b = some o
  tab : ∃ o, h.get? 79 = some o ∧ TabOk o
theorem Bk.mono {H₀ h h' : Heap} (B : Bk H₀ h) (k : Keep h h') : Bk H₀ h' := ⟨fun b o n e => k _ _ (B.keep b o n e), let ⟨o, e, q⟩ := B.tab; ⟨o, k _ _ e, q⟩⟩
theorem Bk.monoX {H₀ h h' : Heap} {X : Addr → Prop} (B : Bk H₀ h) (k : KeepX X h h') (hX : ∀ b, X b → H₀.get? b = none ∧ b ≠ 79) : Bk H₀ h' :=
  ⟨fun b o n e => k _ _ (fun x => by have := (hX b x).1; rw [e] at this; cases this) (B.keep b o n e), let ⟨o, e, q⟩ := B.tab; ⟨o, k _ _ (fun x => (hX _ x).2 rfl) e, q⟩⟩

structure Gx (w : World) (H₀ : Heap) (mg mb : Str → Option Value) : Prop where
  K : (Kp w).In H₀
  g : H₀.Ns mainGlobals mg
  b : H₀.Ns builtinsNs mb
  lim : H₀.NoLimit
  bl : ∀ x : Str, x ≠ "__name__" → mb x = bootBuiltins x
  no : ∀ a ∈ (Kp w).map (·.1), a ≠ 79
  tab : ∃ o, H₀.get? 79 = some o ∧ TabOk o
  bm : ∃ bm ob, mg "__builtins__" = some (.ref bm) ∧ bm ≠ builtinsNs ∧ H₀.get? bm = some ob ∧ ob.cls = .type "module" ∧ ob.dict = some builtinsNs ∧ ob.data = .plain

section
variable {w : World} {H₀ h : Heap} {mg mb : Str → Option Value}
theorem Gx.at (G : Gx w H₀ mg mb) (B : Bk H₀ h) {a : Addr} {o : Obj} (ne : a ≠ 79) (e : (Kp w).lookup a = some o) : h.get? a = some o := B.keep a o ne (G.K a o e)
theorem ns_at {H h : Heap} {a : Addr} {m} (x : H.Ns a m) (k : ∀ o, H.get? a = some o → h.get? a = some o) : h.Ns a m := let ⟨o, es, ep, e, r⟩ := x; ⟨o, es, ep, k o e, r⟩
theorem Gx.gl (G : Gx w H₀ mg mb) (B : Bk H₀ h) : h.Ns mainGlobals mg := ns_at G.g fun o e => B.keep _ o (by decide) e
theorem Gx.bs (G : Gx w H₀ mg mb) (B : Bk H₀ h) : h.Ns builtinsNs mb := ns_at G.b fun o e => B.keep _ o (by decide) e
theorem Gx.nolim (G : Gx w H₀ mg mb) (B : Bk H₀ h) : h.NoLimit := let ⟨mc, a, b⟩ := G.lim; ⟨mc, ns_at a fun o e => B.keep _ o (by decide) e, b⟩
end

/-- room around -/
structure Rm (A : Around) (k : Nat) : Prop where
  hd : A.handled = none
  dp : A.depth + k < recursionLimit
  un : A.units + 8 * k + 100 < cLine
theorem Rm.le {A : Around} {k j : Nat} (r : Rm A k) (h : j ≤ k) : Rm A j := ⟨r.hd, by have := r.dp; omega, by have := r.un; omega⟩
theorem Rm.deep {A : Around} {k : Nat} (env : Env) (r : Rm A (k + 1)) : Rm (A.deeper env) k := ⟨r.hd, by have := r.dp; show A.depth + 1 + k < _; omega, by have := r.un; show A.units + 3 + 8 * k + 100 < _; omega⟩

/-! frames -/
structure Frm (H₀ : Heap) (env : Env) (k : Nat) (h : Heap) (vals : List (Str × Value)) : Prop where
  kind : env.scope.kind = .function
  ns : ∃ ml, h.Ns env.locals ml ∧ ∀ x v, env.kindOf x = some .local → vals.lookup x = some v → ml x = some v
  cl : ∀ x c, env.kindOf x = some .cell → env.cells.lookup x = some c → env.locals < c → c ≤ env.locals + k → ∃ ov, h.IsCell c ov ∧ ∀ v, vals.lookup x = some v → ov = some v
  inj : ∀ x y c, env.cells.lookup x = some c → env.cells.lookup y = some c → env.locals < c → x = y
  full : ∀ b, Inter env.locals k b → ∃ o, h.get? b = some o ∧ (∀ xs n, o.data ≠ .seq xs n) ∧ (∀ xs, o.data ≠ .fields xs)
  off : ∀ b, Inter env.locals k b → H₀.get? b = none ∧ b ≠ 79
  gl : env.globals = mainGlobals
  bn : env.builtins = builtinsNs

section
variable {H₀ h h' : Heap} {env : Env} {k : Nat} {vals vals' : List (Str × Value)}
theorem Frm.mono (F : Frm H₀ env k h vals) (hk : Keep h h') : Frm H₀ env k h' vals where
  kind := F.kind
  ns := let ⟨ml, n, q⟩ := F.ns; ⟨ml, n.keeps hk, q⟩
  cl := fun x c a b d e => let ⟨ov, n, q⟩ := F.cl x c a b d e; ⟨ov, n.keeps hk, q⟩
  inj := F.inj
  full := fun b hb => let ⟨o, e, q⟩ := F.full b hb; ⟨o, hk _ _ e, q⟩
  off := F.off
  gl := F.gl
  bn := F.bn
theorem Frm.monoX {X : Addr → Prop} (F : Frm H₀ env k h vals) (hk : KeepX X h h') (hX : ∀ b, Inter env.locals k b → ¬ X b) : Frm H₀ env k h' vals where
  kind := F.kind
  ns := let ⟨ml, n, q⟩ := F.ns; ⟨ml, ns_at n fun o e => hk _ o (hX _ ⟨Nat.le_refl _, Nat.le_add_right _ _⟩) e, q⟩
  cl := fun x c a b d e => let ⟨ov, ⟨o, n, r⟩, q⟩ := F.cl x c a b d e; ⟨ov, ⟨o, hk _ o (hX _ ⟨Nat.le_of_lt d, e⟩) n, r⟩, q⟩
  inj := F.inj
  full := fun b hb => let ⟨o, e, q⟩ := F.full b hb; ⟨o, hk _ _ (hX b hb) e, q⟩
  off := F.off
  gl := F.gl
  bn := F.bn
theorem Frm.sub (F : Frm H₀ env k h vals) (hs : ∀ x v, vals'.lookup x = some v → vals.lookup x = some v) : Frm H₀ env k h vals' :=
  { F with ns := let ⟨ml, n, q⟩ := F.ns; ⟨ml, n, fun x v a b => q x v a (hs x v b)⟩
           cl := fun x c a b d e => let ⟨ov, n, q⟩ := F.cl x c a b d e; ⟨ov, n, fun v f => q v (hs x v f)⟩ }
theorem Frm.keepS (F : Frm H₀ env k h vals) (hk : KeepX (Inter env.locals k) h h') : KeepS h h' := fun b o xs n e d =>
  hk b o (fun hb => by obtain ⟨o', e', q, _⟩ := F.full b hb; rw [e] at e'; cases e'; exact q xs n d) e
theorem Frm.lt (F : Frm H₀ env k h vals) {b : Addr} (hb : Inter env.locals k b) : b < h.objs.size := let ⟨_, e, _⟩ := F.full b hb; Heap.lt_size e
theorem Frm.notNew (F : Frm H₀ env k h vals) {b : Addr} (e : h.get? b = none) : ¬ Inter env.locals k b := fun hb => by obtain ⟨o, e', _⟩ := F.full b hb; rw [e] at e'; cases e'
end

/-! names -/
section
variable {w : World} {A : Around} {E : Value → Shared → Prop} {s : Shared} {H₀ : Heap} {env : Env} {k : Nat} {vals : List (Str × Value)} {mg mb : Str → Option Value} {x : Str} {pos : Pos} {v : Value} {M : Model}
theorem evL {Q : Value → Shared → Prop} (F : Frm H₀ env k s.heap vals) (hv : vals.lookup x = some v) (h : Q v s) (hl : env.kindOf x = some .local := by rfl) (hd : (x == ("__debug__" : Str)) = false := by decide) :
    wpAny M A (eval (.Name x pos) env) Q E s := by
  obtain ⟨ml, n, q⟩ := F.ns
  exact wpAny_Name (wpAny_loadName_local F.kind hl n (q x v hl hv) h) hd
theorem ldL {Q : Value → Shared → Prop} (F : Frm H₀ env k s.heap vals) (hv : vals.lookup x = some v) (h : Q v s) (hl : env.kindOf x = some .local := by rfl) :
    wpAny M A (loadName env x) Q E s := by
  obtain ⟨ml, n, q⟩ := F.ns
  exact wpAny_loadName_local F.kind hl n (q x v hl hv) h
theorem evC {c : Addr} {Q : Value → Shared → Prop} (F : Frm H₀ env k s.heap vals) (hv : vals.lookup x = some v) (h : Q v s) (hl : env.kindOf x = some .cell := by rfl) (hc : env.cells.lookup x = some c := by rfl)
    (h1 : env.locals < c := by show _ < _; omega) (h2 : c ≤ env.locals + k := by show _ ≤ _; omega) (hd : (x == ("__debug__" : Str)) = false := by decide) :
    wpAny M A (eval (.Name x pos) env) Q E s := by
  obtain ⟨ov, n, q⟩ := F.cl x c hl hc h1 h2
  rw [q v hv] at n
  exact wpAny_Name (wpAny_loadName_cell F.kind hl hc n h) hd
theorem evO {c : Addr} {Q : Value → Shared → Prop} (hk : env.scope.kind = .function) (I : s.heap.IsCell c (some v)) (h : Q v s) (hl : env.kindOf x = some .cell := by rfl) (hc : env.cells.lookup x = some c := by rfl)
    (hd : (x == ("__debug__" : Str)) = false := by decide) : wpAny M A (eval (.Name x pos) env) Q E s := wpAny_Name (wpAny_loadName_cell hk hl hc I h) hd
theorem evG {Q : Value → Shared → Prop} (G : Gx w H₀ mg mb) (B : Bk H₀ s.heap) (hk : env.scope.kind = .function) (hg : env.globals = mainGlobals) (e : nsIn (Kp w) mainGlobals x = some (some v)) (h : Q v s) (hl : env.kindOf x = some .globalImplicit := by rfl)
    (hd : (x == ("__debug__" : Str)) = false := by decide) : wpAny M A (eval (.Name x pos) env) Q E s :=
  Name_function_global hk hl (loadGlobal_global (env := env) (hg ▸ G.gl B) (mg_of G.K G.g e) h) hd
theorem evB {Q : Value → Shared → Prop} (G : Gx w H₀ mg mb) (B : Bk H₀ s.heap) (hk : env.scope.kind = .function) (hg : env.globals = mainGlobals) (hb : env.builtins = builtinsNs) (e : nsIn (Kp w) mainGlobals x = some none) (hv : bootBuiltins x = some v) (h : Q v s)
    (hl : env.kindOf x = some .globalImplicit := by rfl) (hn : x ≠ "__name__" := by decide) (hd : (x == ("__debug__" : Str)) = false := by decide) : wpAny M A (eval (.Name x pos) env) Q E s :=
  Name_function_global hk hl (loadGlobal_builtin (env := env) (hg ▸ G.gl B) (mg_none_of G.K G.g e) (hb ▸ G.bs B) ((G.bl x hn).trans hv) h) hd
end
end Mine
end
/-! text L2 -/
section
open PySem PySem.Calls PySem.W PyProof.Rows
namespace Mine

structure Sm0 (X : Addr → Prop) (h : Heap) (gs : Array GenState) (os : OsState) (h' : Heap) (gs' : Array GenState) (os' : OsState) : Prop where
  k : KeepX X h h'
  g : gs' = gs
  o : os' = os
abbrev Sm (X : Addr → Prop) (s s' : Shared) : Prop := Sm0 X s.heap s.gens s.os s'.heap s'.gens s'.os
abbrev No : Addr → Prop := fun _ => False
theorem Sm.kp {s s' : Shared} (S : Sm No s s') : Keep s.heap s'.heap := fun b o e => S.k b o (fun h => h) e
theorem Sm.of {s : Shared} {h' : Heap} {tk : Nat} (k : Keep s.heap h') : Sm No s { s with heap := h', toks := tk } := ⟨fun b o _ e => k b o e, rfl, rfl⟩
theorem Sm.ofX {X : Addr → Prop} {s : Shared} {h' : Heap} {tk : Nat} (k : KeepX X s.heap h') : Sm X s { s with heap := h', toks := tk } := ⟨k, rfl, rfl⟩
theorem Sm.refl (X : Addr → Prop) (s : Shared) : Sm X s s := ⟨fun _ _ _ e => e, rfl, rfl⟩
theorem Sm.trans {X : Addr → Prop} {s s' s'' : Shared} (a : Sm X s s') (b : Sm X s' s'') : Sm X s s'' := ⟨a.k.trans b.k, b.g.trans a.g, b.o.trans a.o⟩
theorem Sm.mono {X Y : Addr → Prop} {s s' : Shared} (a : Sm X s s') (h : ∀ b, X b → Y b) : Sm Y s s' := ⟨fun b o n e => a.k b o (fun x => n (h b x)) e, a.g, a.o⟩
theorem Sm.any {X : Addr → Prop} {s s' : Shared} (a : Sm No s s') : Sm X s s' := a.mono fun _ h => h.elim
/-- what is new may turn -/
theorem Sm.fresh {X : Addr → Prop} {s₀ s s' : Shared} (a : Sm No s₀ s) (b : Sm X s s') (h : ∀ b, X b → s₀.heap.get? b = none) : Sm No s₀ s' :=
  ⟨fun c o _ e => b.k c o (fun x => by rw [h c x] at e; cases e) (a.kp c o e), b.g.trans a.g, b.o.trans a.o⟩
theorem Sm.fresh' {X Y : Addr → Prop} {s₀ s s' : Shared} (a : Sm Y s₀ s) (b : Sm X s s') (h : ∀ b, X b → Y b ∨ s₀.heap.get? b = none) : Sm Y s₀ s' :=
  ⟨fun c o n e => b.k c o (fun x => by rcases h c x with q | q; exact n q; rw [q] at e; cases e) (a.k c o n e), b.g.trans a.g, b.o.trans a.o⟩

theorem Gx.inn {w : World} {H₀ h : Heap} {mg mb : Str → Option Value} (G : Gx w H₀ mg mb) (B : Bk H₀ h) : (Kp w).In h := fun a o e =>
  G.at B (fun q => by
    have : a ∈ (Kp w).map (·.1) := by
      have key : ∀ (l : List (Addr × Obj)), l.lookup a = some o → a ∈ l.map (·.1) := fun l => by
        induction l with
        | nil => intro h; cases h
        | cons x r ih =>
          intro h
          rw [List.lookup_cons] at h
          split at h
          · rename_i hb; rw [beq_iff_eq] at hb; subst hb; exact List.mem_cons_self
          · exact List.mem_cons_of_mem _ (ih h)
      exact key _ e
    exact G.no a this q) e

def ncells (scope : Scope) : Nat := (scope.names.filter (·.2 == .cell)).length

theorem cellsFrom_range : ∀ (names : List (Str × NameKind)) (n : Nat) (acc : List (Str × Addr)) (x : Str) (c : Nat), (x, c) ∈ cellsFrom n names acc → (x, c) ∈ acc ∨ (n ≤ c ∧ c < n + (names.filter (·.2 == .cell)).length)
  | [], n, acc, x, c, h => .inl h
  | (y, kd) :: r, n, acc, x, c, h => by
    unfold cellsFrom at h
    by_cases hk : (kd == .cell) = true
    · rw [if_pos hk] at h
      rw [List.filter_cons_of_pos (by simpa using hk), List.length_cons]
      rcases cellsFrom_range r (n + 1) _ x c h with q | q
      · rcases List.mem_cons.mp q with e | q
        · cases e; exact .inr ⟨Nat.le_refl _, by omega⟩
        · exact .inl q
      · exact .inr ⟨by omega, by omega⟩
    · rw [if_neg hk] at h
      rw [List.filter_cons_of_neg (by simpa using hk)]
      exact cellsFrom_range r n acc x c h
theorem cellsFrom_all : ∀ (names : List (Str × NameKind)) (n : Nat) (acc : List (Str × Addr)) (c : Nat), ((∃ x, (x, c) ∈ acc) ∨ (n ≤ c ∧ c < n + (names.filter (·.2 == .cell)).length)) → ∃ x, (x, c) ∈ cellsFrom n names acc
  | [], n, acc, c, h => by
    rcases h with h | h
    · exact h
    · simp at h; omega
  | (y, kd) :: r, n, acc, c, h => by
    unfold cellsFrom
    by_cases hk : (kd == .cell) = true
    · rw [if_pos hk]
      rw [List.filter_cons_of_pos (by simpa using hk), List.length_cons] at h
      refine cellsFrom_all r (n + 1) _ c ?_
      rcases h with ⟨x, h⟩ | h
      · exact .inl ⟨x, List.mem_cons_of_mem _ h⟩
      · by_cases e : c = n
        · exact .inl ⟨y, by rw [e]; exact List.mem_cons_self⟩
        · exact .inr ⟨by omega, by omega⟩
    · rw [if_neg hk]
      rw [List.filter_cons_of_neg (by simpa using hk)] at h
      exact cellsFrom_all r n acc c h

theorem bindL_get (kd : Str → Option NameKind) : ∀ (binds : List (Str × Value)) (m : Str → Option Value) (x : Str) (v : Value), (binds.map (·.1)).Nodup → kd x = some .local → binds.lookup x = some v → bindL kd binds m x = some v
  | [], _, _, _, _, _, h => by cases h
  | (n, u) :: r, m, x, v, nd, hk, h => by
    unfold bindL
    rw [List.lookup_cons] at h
    rw [List.map_cons, List.nodup_cons] at nd
    by_cases hx : (x == n) = true
    · rw [hx] at h
      have hx' : x = n := beq_iff_eq.mp hx
      simp only [Option.some.injEq] at h
      subst h
      rw [if_pos (by rw [← hx']; exact hk)]
      have key : ∀ (r : List (Str × Value)) (m : Str → Option Value), n ∉ r.map (·.1) → m n = some u → bindL kd r m n = some u := fun r => by
        induction r with
        | nil => intro m _ h; exact h
        | cons y r ih =>
          intro m hn h
          obtain ⟨z, zv⟩ := y
          simp only [List.map_cons, List.mem_cons, not_or] at hn
          unfold bindL
          refine ih _ hn.2 ?_
          split
          · show (if n = z then _ else m n) = _
            rw [if_neg hn.1]; exact h
          · exact h
      rw [hx']
      exact key r _ nd.1 (by simp)
    · simp only [Bool.not_eq_true] at hx
      rw [hx] at h
      exact bindL_get kd r _ x v nd.2 hk h
theorem bindC_get (kd : Str → Option NameKind) : ∀ (binds : List (Str × Value)) (m : Str → Option Value) (x : Str) (v : Value), (binds.map (·.1)).Nodup → kd x = some .cell → binds.lookup x = some v → bindC kd binds m x = some v
  | [], _, _, _, _, _, h => by cases h
  | (n, u) :: r, m, x, v, nd, hk, h => by
    unfold bindC
    rw [List.lookup_cons] at h
    rw [List.map_cons, List.nodup_cons] at nd
    by_cases hx : (x == n) = true
    · rw [hx] at h
      have hx' : x = n := beq_iff_eq.mp hx
      simp only [Option.some.injEq] at h
      subst h
      rw [if_neg (by rw [← hx', hk]; simp)]
      have key : ∀ (r : List (Str × Value)) (m : Str → Option Value), n ∉ r.map (·.1) → m n = some u → bindC kd r m n = some u := fun r => by
        induction r with
        | nil => intro m _ h; exact h
        | cons y r ih =>
          intro m hn h
          obtain ⟨z, zv⟩ := y
          simp only [List.map_cons, List.mem_cons, not_or] at hn
          unfold bindC
          refine ih _ hn.2 ?_
          split
          · exact h
          · show (if n = z then _ else m n) = _
            rw [if_neg hn.1]; exact h
      rw [hx']
      exact key r _ nd.1 (by simp)
    · simp only [Bool.not_eq_true] at hx
      rw [hx] at h
      exact bindC_get kd r _ x v nd.2 hk h

section
variable {w : World} {A : Around} {E : Value → Shared → Prop} {s : Shared} {H₀ : Heap} {mg mb : Str → Option Value}

theorem frame_new {h : Heap} {L : Addr} {H₀ : Heap} (B : Bk H₀ h) (hL : h.objs.size ≤ L) : H₀.get? L = none ∧ L ≠ 79 := by
  have hn : h.get? L = none := Heap.get?_none_of_le hL
  have h79 : L ≠ 79 := fun q => by obtain ⟨o, e, _⟩ := B.tab; rw [q, e] at hn; cases hn
  refine ⟨?_, h79⟩
  cases e : H₀.get? L with
  | none => rfl
  | some o => rw [B.keep L o h79 e] at hn; cases hn

/-- a call of a def of the text's top -/
theorem call_own {name qual : Str} {params : Arguments} {body : List Stmt} {scope : Scope} {dV kV doc pm cdv ct oc : Value} {an od : Option Addr} {osl : Array (Option Value)} {a : Addr} {args : Args} {binds : List (Str × Value)} {j : Nat}
    {Q : Value → Shared → Prop} (G : Gx w H₀ mg mb) (B : Bk H₀ s.heap) (R : Rm A (j + 1))
    (ho : (Kp w).lookup a = some ⟨oc, od, .func (fnOf name qual params body scope dV kV doc pm an cdv ct), osl⟩) (hcd : codeIn (Kp w) cdv qual = true)
    (hbind : BindsTo s (fnOf name qual params body scope dV kV doc pm an cdv ct) args binds)
    (hkind : (binds.all fun y => scope.names.lookup y.1 == some .local || scope.names.lookup y.1 == some .cell) = true)
    {nms : List Str} (hnm : binds.map (·.1) = nms) (hnd' : nms.Nodup) (hcn : ((cellsFrom 0 scope.names []).map (·.1)).Nodup)
    (hco : scope.isCoroutine = false) (hgen : scope.isGenerator = false) (hk : scope.kind = .function)
    (h : ∀ s₁, Frm H₀ (envOfC qual scope s.heap.objs.size a cdv) (ncells scope) s₁.heap binds → Sm No s s₁ → Bk H₀ s₁.heap → Rm (A.deeper (envOfC qual scope s.heap.objs.size a cdv)) j →
      wpAny (model Prg w) (A.deeper (envOfC qual scope s.heap.objs.size a cdv)) (execs body (envOfC qual scope s.heap.objs.size a cdv)) (fun f s' => Q (match f with | .ret v => v | _ => .none) s') (fun _ _ => False) s₁) :
    wpAny (model Prg w) A (call (.ref a) args.pos args.kw) Q E s := by
  have hnd : (binds.map (·.1)).Nodup := hnm ▸ hnd'
  have X := G.inn B
  have hlim := G.nolim B
  refine wpAny_call (codeAny_call_function (R := fun r s' => match r with | .ok (.ret v) => Q v s' | .ok _ => False | .error e => E e s') (by have := R.dp; omega) (X _ _ ho) rfl hco hgen rfl (codeRec_of X hcd) (hbind _ _ _ _ ?_))
  refine wpAny_newFunctionEnv_cells hk ?_ fun env he s₁ x => ?_
  · intro y hy
    have := List.all_eq_true.mp hkind y hy
    rcases Bool.or_eq_true_iff.mp this with q | q
    · exact .inl (by simpa using q)
    · have q' : scope.names.lookup y.1 = some .cell := by simpa using q
      exact .inr ⟨q', cellsFrom_some _ _ _ (.inl q')⟩
  subst he
  refine ⟨hlim.keeps x.toInCall.keep, codeAny_func ?_⟩
  obtain ⟨h₁, tk, hs₁, hkp⟩ := x.done
  have hB₁ : Bk H₀ s₁.heap := B.mono (by rw [hs₁]; exact hkp)
  have F : Frm H₀ (envOfC qual scope s.heap.objs.size a cdv) (ncells scope) s₁.heap binds := by
    refine ⟨hk, ⟨_, x.toInCall.ns, fun y v hy hv => bindL_get _ binds _ y v hnd hy hv⟩, fun y c hy hc _ _ => ⟨_, x.cell y c hc, fun v hv => bindC_get _ binds _ y v hnd hy hv⟩, fun y z c hy hz _ => ?_, fun b hb => ?_, fun b hb => frame_new B hb.1, rfl, rfl⟩
    · exact name_of_addr x.apart (mem_of_lookup hy) (mem_of_lookup hz)
    · rcases Nat.lt_or_ge s.heap.objs.size b with hlt | hge
      · have hb2 : @LE.le Nat _ b (s.heap.objs.size + ncells scope) := hb.2
        obtain ⟨y, hy⟩ := cellsFrom_all scope.names (s.heap.objs.size + 1) [] b (.inr ⟨hlt, by unfold ncells at hb2; omega⟩)
        have hc : (cellsFrom (s.heap.objs.size + 1) scope.names []).lookup y = some b := lookup_of_mem_nodup (cellsFrom_names scope.names 0 (s.heap.objs.size + 1) [] [] rfl ▸ hcn) hy
        obtain ⟨o, e, d⟩ := x.cell y b hc
        exact ⟨o, e, fun xs n q => (by rw [d] at q; cases q), fun xs q => (by rw [d] at q; cases q)⟩
      · have e : b = s.heap.objs.size := Nat.le_antisymm hge hb.1
        subst e
        obtain ⟨o, es, ep, e, d, _⟩ := x.toInCall.ns
        exact ⟨o, e, fun xs n q => (by rw [d] at q; cases q), fun xs q => (by rw [d] at q; cases q)⟩
  refine wpAny_mono (h s₁ F (by rw [hs₁]; exact Sm.of hkp) hB₁ (Rm.deep _ ⟨R.hd, R.dp, R.un⟩)) (fun f s' q => ?_) fun _ _ q => q.elim
  cases f <;> exact q
end
end Mine
end
/-! text L3 -/
section
open PySem PySem.Calls PySem.W PyProof.Rows
namespace Mine

section
variable {w : World} {A : Around} {E : Value → Shared → Prop} {s : Shared} {H₀ : Heap} {env : Env} {k : Nat} {vals : List (Str × Value)} {x : Str} {v : Value} {M : Model}

theorem Frm.set {h h' : Heap} (F : Frm H₀ env k h vals) (hl : env.kindOf x = some .local) {ml : Str → Option Value} (n : h.Ns env.locals ml) (q : ∀ y v, env.kindOf y = some .local → vals.lookup y = some v → ml y = some v)
    (hn : h'.Ns env.locals (fun y => if y = x then some v else ml y)) (hs : Heap.SameBut env.locals h h') : Frm H₀ env k h' ((x, v) :: vals) where
  kind := F.kind
  ns := ⟨_, hn, fun y u hy hv => by
    show (if y = x then some v else ml y) = some u
    rw [List.lookup_cons] at hv
    by_cases e : y = x
    · subst e; simp at hv; subst hv; simp
    · rw [if_neg e]; rw [beq_eq_false_iff_ne.mpr e] at hv; exact q y u hy hv⟩
  cl := fun y c hy hc h1 h2 => by
    obtain ⟨ov, I, r⟩ := F.cl y c hy hc h1 h2
    refine ⟨ov, I.sameBut hs (Nat.ne_of_gt h1), fun u hu => r u ?_⟩
    rw [List.lookup_cons] at hu
    have e : y ≠ x := fun e => by subst e; rw [hl] at hy; cases hy
    rw [beq_eq_false_iff_ne.mpr e] at hu; exact hu
  inj := F.inj
  full := fun b hb => by
    obtain ⟨o, e, d⟩ := F.full b hb
    by_cases hbL : b = env.locals
    · subst hbL
      obtain ⟨o', es, ep, e', d', _⟩ := hn
      exact ⟨o', e', fun xs n q => (by rw [d'] at q; cases q), fun xs q => (by rw [d'] at q; cases q)⟩
    · exact ⟨o, (hs.2 b hbL).trans e, d⟩
  off := F.off
  gl := F.gl
  bn := F.bn

theorem stL {Q : Unit → Shared → Prop} (F : Frm H₀ env k s.heap vals)
    (h : ∀ s', Frm H₀ env k s'.heap ((x, v) :: vals) → Sm (Inter env.locals k) s s' → Q () s') (hl : env.kindOf x = some .local := by rfl) : wpAny M A (storeName env x v) Q E s := by
  obtain ⟨ml, n, q⟩ := F.ns
  refine wpAny_storeName_local hl n (fun h' hn hs => h _ (F.set hl n q hn hs) (Sm.ofX fun b o nb e => (hs.2 b (fun eq => nb ⟨Nat.le_of_eq eq.symm, by rw [eq]; exact Nat.le_add_right _ _⟩)).trans e)) ?_
  rw [F.kind]; rfl

theorem stC {c : Addr} {Q : Unit → Shared → Prop} (F : Frm H₀ env k s.heap vals)
    (h : ∀ s', Frm H₀ env k s'.heap ((x, v) :: vals) → Sm (Inter env.locals k) s s' → Q () s') (hl : env.kindOf x = some .cell := by rfl) (hc : env.cells.lookup x = some c := by rfl)
    (h1 : env.locals < c := by show _ < _; omega) (h2 : c ≤ env.locals + k := by show _ ≤ _; omega) : wpAny M A (storeName env x v) Q E s := by
  obtain ⟨ov, I, r⟩ := F.cl x c hl hc h1 h2
  refine wpAny_storeName_cell F.kind hl hc I fun h' I' hs => h _ ?_ (Sm.ofX fun b o nb e => (hs.2 b (fun eq => nb (by subst eq; exact ⟨Nat.le_of_lt h1, h2⟩))).trans e)
  have hLc : env.locals ≠ c := Nat.ne_of_lt h1
  refine ⟨F.kind, ?_, fun y d hy hd g1 g2 => ?_, F.inj, fun b hb => ?_, F.off, F.gl, F.bn⟩
  · obtain ⟨ml, n, q⟩ := F.ns
    refine ⟨ml, n.sameBut hs hLc, fun y u hy hu => q y u hy ?_⟩
    rw [List.lookup_cons] at hu
    have e : y ≠ x := fun e => by subst e; rw [hl] at hy; cases hy
    rw [beq_eq_false_iff_ne.mpr e] at hu; exact hu
  · by_cases e : y = x
    · subst e
      rw [hc] at hd; cases hd
      exact ⟨_, I', fun u hu => by simpa using hu⟩
    · have hdc : d ≠ c := fun eq => e (F.inj y x c (eq ▸ hd) hc h1)
      obtain ⟨ov', J, r'⟩ := F.cl y d hy hd g1 g2
      refine ⟨ov', J.sameBut hs hdc, fun u hu => r' u ?_⟩
      rw [List.lookup_cons, beq_eq_false_iff_ne.mpr e] at hu; exact hu
  · by_cases e : b = c
    · subst e
      obtain ⟨o, e', d⟩ := I'
      exact ⟨o, e', fun xs n q => (by rw [d] at q; cases q), fun xs q => (by rw [d] at q; cases q)⟩
    · obtain ⟨o, e', d⟩ := F.full b hb
      exact ⟨o, (hs.2 b e).trans e', d⟩

/-- an assignment to a name of the frame -/
theorem asL {pos pos' : Pos} {value : Expr} {Q : Flow → Shared → Prop} 
    (h : wpAny M A (eval value env) (fun v s₁ => ∃ vals, Frm H₀ env k s₁.heap vals ∧ ∀ s', Frm H₀ env k s'.heap ((x, v) :: vals) → Sm (Inter env.locals k) s₁ s' → Q .next s') E s)
    (hl : env.kindOf x = some .local := by rfl) (hs : swapsWith value (some (.Name x pos')) pos.line env = pure false := by rfl) :
    wpAny M A (exec (.Assign [.Name x pos'] value pos) env) Q E s :=
  wpAny_Assign_Name (wpAny_mono h (fun v s₁ ⟨_, F, q⟩ => stL F (fun s' F' S => q s' F' S) hl) fun _ _ e => e) hs
theorem asC {c : Addr} {pos pos' : Pos} {value : Expr} {Q : Flow → Shared → Prop} 
    (h : wpAny M A (eval value env) (fun v s₁ => ∃ vals, Frm H₀ env k s₁.heap vals ∧ ∀ s', Frm H₀ env k s'.heap ((x, v) :: vals) → Sm (Inter env.locals k) s₁ s' → Q .next s') E s)
    (hl : env.kindOf x = some .cell := by rfl) (hc : env.cells.lookup x = some c := by rfl)
    (h1 : env.locals < c := by show _ < _; omega) (h2 : c ≤ env.locals + k := by show _ ≤ _; omega) (hs : swapsWith value (some (.Name x pos')) pos.line env = pure false := by rfl) :
    wpAny M A (exec (.Assign [.Name x pos'] value pos) env) Q E s :=
  wpAny_Assign_Name (wpAny_mono h (fun v s₁ ⟨_, F, q⟩ => stC F (fun s' F' S => q s' F' S) hl hc h1 h2) fun _ _ e => e) hs
end

/-! what a loop walks along -/
structure Src (w : World) (A : Around) (target : Expr) (I : Addr) (fp wr : List Addr) (n : Nat) (P : Nat → Value → Heap → Prop) (St : Nat → Heap → Prop) : Prop where
  sub : ∀ b ∈ wr, b ∈ fp
  frame : ∀ i h h', St i h → (∀ b ∈ fp, ∀ o, h.get? b = some o → h'.get? b = some o) → St i h'
  item : ∀ i (s : Shared) (Q : Value → Shared → Prop) (E : Value → Shared → Prop), i < n → St i s.heap →
    (∀ v s', P i v s'.heap → St (i + 1) s'.heap → Sm (· ∈ wr) s s' → Q v s') →
    wpAny (model Prg w) A (pyNext (.ref I)) (fun r s₁ => ∃ v, r = some v ∧ wpAny (model Prg w) A (letOwnedTupleGo target (.ref I) v) (fun _ s₂ => Q v s₂) E s₁) E s
  done : ∀ (s : Shared) (Q : Option Value → Shared → Prop) (E : Value → Shared → Prop), St n s.heap → (∀ s', Sm (· ∈ wr) s s' → Q none s') → wpAny (model Prg w) A (pyNext (.ref I)) Q E s
  self : ∀ i (s : Shared) (Q : Value → Shared → Prop) (E : Value → Shared → Prop), St i s.heap → Q (.ref I) s → wpAny (model Prg w) A (pyIter (.ref I)) Q E s
  ex : ∀ i h, St i h → ∀ b ∈ fp, ∃ o, h.get? b = some o

theorem Src.of_walks {w : World} {A : Around} {target : Expr} {I : Addr} {fp wr : List Addr} {n : Nat} {P : Nat → Value → Prop} {St : Nat → Heap → Prop} (W : Walks Prg w A I fp wr n P St)
    (ht : ∀ i v h, i ≤ n → St i h → ∀ (s : Shared) (Q : Unit → Shared → Prop) (E : Value → Shared → Prop), s.heap = h → Q () s → wpAny (model Prg w) A (letOwnedTupleGo target (.ref I) v) Q E s)
    (hex : ∀ i h, St i h → ∀ b ∈ fp, ∃ o, h.get? b = some o) :
    Src w A target I fp wr n (fun i v _ => P i v) St where
  sub := W.sub
  frame := W.frame
  item := fun i s Q E hi st h => W.item i s _ E hi st fun v h' tk p st' kp => ⟨v, rfl, ht (i + 1) v h' hi st' _ _ _ rfl (h v _ p st' (Sm.ofX fun b o nb e => kp b o nb e))⟩
  done := fun s Q E st h => W.done s Q E st fun h' tk kp => h _ (Sm.ofX fun b o nb e => kp b o nb e)
  self := W.self
  ex := hex

theorem Src.name {w : World} {A : Around} {x : Str} {px : Pos} {I : Addr} {fp wr : List Addr} {n : Nat} {P : Nat → Value → Prop} {St : Nat → Heap → Prop} (W : Walks Prg w A I fp wr n P St) (hex : ∀ i h, St i h → ∀ b ∈ fp, ∃ o, h.get? b = some o) : Src w A (.Name x px) I fp wr n (fun i v _ => P i v) St :=
  .of_walks W (fun _ _ _ _ _ _ _ _ _ q => wpAny_pure q) hex

theorem Src.listT {w : World} {A : Around} {target : Expr} (hh : A.handled = none) (I ax : Addr) (hne : ax ≠ I) (items : Array Value) :
    Src w A target I [I, ax] [I] items.size (fun i v _ => items[i]? = some v) (fun i h => h.IsListIter I ax i ∧ h.IsList ax items) :=
  .of_walks (Walks.list hh I ax hne items) (fun i v h _ st s Q E e q => by
    subst e
    obtain ⟨⟨o, ho, hc, hd⟩, _⟩ := st
    unfold letOwnedTupleGo
    cases target <;> first | exact wpAny_pure q | skip
    all_goals
      cases v <;> first | exact wpAny_pure q | skip
      refine wpAny_bind (wpAny_load ho ?_)
      rw [hc, hd]
      exact wpAny_pure q) fun i h st b hb => by
    rcases List.mem_cons.mp hb with e | hb
    · subst e; obtain ⟨o, e, _⟩ := st.1; exact ⟨o, e⟩
    · rw [List.mem_singleton] at hb; subst hb; obtain ⟨o, e, _⟩ := st.2; exact ⟨o, e⟩

/-- a for, its turns by an invariant over the heap -/
theorem for_own {w : World} {A : Around} {E : Value → Shared → Prop} {s : Shared} {target iter : Expr} {body : List Stmt} {env : Env} {pos : Pos} {Q : Flow → Shared → Prop} (X : Addr → Prop)
    (h : wpAny (model Prg w) A (eval iter env) (fun xv s₁ => wpAny (model Prg w) A (pyIter xv) (fun it s₂ => ∃ I fp wr n P St, ∃ J : Nat → Heap → Prop, it = .ref I ∧ Src w A target I fp wr n P St ∧ St 0 s₂.heap ∧ Sm No s s₂ ∧
      (∀ b ∈ wr, s.heap.get? b = none) ∧ (∀ b ∈ fp, ¬ X b) ∧ (∀ i h h', St i h → J i h → KeepX (· ∈ wr) h h' → J i h') ∧ J 0 s₂.heap ∧
      (∀ i v s₃, i < n → P i v s₃.heap → J i s₃.heap → Sm (fun b => X b ∨ b ∈ wr) s₂ s₃ → St (i + 1) s₃.heap →
        wpAny (model Prg w) A (assign target env v) (fun _ s₄ => wpAny (model Prg w) A (execs body env) (fun f s₅ => (f = .next ∨ f = .cont) ∧ J (i + 1) s₅.heap ∧ Sm X s₃ s₅) (fun _ _ => False) s₄) (fun _ _ => False) s₃) ∧
      (∀ s', J n s'.heap → Sm X s s' → Q .next s')) E s₁) E s)
    (hs : ∀ x, foldedSetIterable iter env x = pure x := by intro _; rfl) :
    wpAny (model Prg w) A (exec (.For target iter body [] pos) env) Q E s := by
  refine wpAny_For (wpAny_mono h (fun xv s₁ h₁ => wpAny_mono h₁ (fun it s₂ h₂ => ?_) fun _ _ e => e) fun _ _ e => e) hs
  obtain ⟨I, fp, wr, n, P, St, J, rfl, S, st, S02, hwr, hfp, stab, j0, turn, fin⟩ := h₂
  refine codeAny_forLoop_any (fun k s' => ∃ i, i ≤ n ∧ k = n - i ∧ St i s'.heap ∧ J i s'.heap ∧ Sm (fun b => X b ∨ b ∈ wr) s₂ s') ?_ n ⟨0, Nat.zero_le _, rfl, st, j0, Sm.refl _ _⟩
  rintro k s' ⟨i, hi, rfl, st', j, S2⟩
  have hXwr : ∀ b, b ∈ wr → ¬ X b := fun b hb => hfp b (S.sub b hb)
  by_cases hlt : i < n
  · refine wpAny_mono (S.item i s' (fun v s₃ => wpAny (model Prg w) A (assign target env v) (fun _ s₄ => wpAny (model Prg w) A (execs body env) (fun f s₅ => (f = .next ∨ f = .cont) ∧ J (i + 1) s₅.heap ∧ Sm (fun b => X b ∨ b ∈ wr) s₂ s₅ ∧ St (i + 1) s₅.heap) (fun _ _ => False) s₄) (fun _ _ => False) s₃) (fun _ _ => False) hlt st' fun v s₃ p st₃ S3 => ?_) (fun r s₃ hr => ?_) fun _ _ e => e.elim
    · have S23 : Sm (fun b => X b ∨ b ∈ wr) s₂ s₃ := S2.trans (S3.mono fun b hb => .inr hb)
      refine wpAny_mono (turn i v s₃ hlt p (stab i _ _ st' j S3.k) S23 st₃) (fun _ s₄ h₄ => wpAny_mono h₄ (fun f s₅ h₅ => ⟨h₅.1, h₅.2.1, S23.trans (h₅.2.2.mono fun b hb => .inl hb), S.frame _ _ _ st₃ fun b hb o e => h₅.2.2.k b o (hfp b hb) e⟩) fun _ _ e => e) fun _ _ e => e
    · obtain ⟨v, rfl, hr⟩ := hr
      refine wpAny_mono hr (fun _ s₄ h₄ => wpAny_mono h₄ (fun _ s₅ h₅ => wpAny_mono h₅ (fun f s₆ h₆ => ?_) fun _ _ e => e.elim) fun _ _ e => e.elim) fun _ _ e => e.elim
      obtain ⟨hf, j₆, S6, st₆⟩ := h₆
      rcases hf with rfl | rfl <;> exact ⟨n - (i + 1), by omega, i + 1, hlt, rfl, st₆, j₆, S6⟩
  · obtain rfl : i = n := Nat.le_antisymm hi (Nat.not_lt.mp hlt)
    refine S.done s' _ _ st' fun s₃ S3 => ?_
    refine wpAny_execs_nil ?_
    refine fin s₃ (stab _ _ _ st' j S3.k) ?_
    exact (S02.any (X := X)).fresh' (S2.trans (S3.mono fun b hb => .inr hb)) fun b hb => hb.imp id fun q => hwr b q
end Mine
end
/-! text L4 -/
section
open PySem PySem.Calls PySem.W PyProof.Rows
namespace Mine

/-! bits -/
theorem nat_xor_and : ∀ (n a b : Nat), a ≤ n → (a ^^^ b) + 2 * (a &&& b) = a + b := by
  intro n
  induction n with
  | zero => intro a b h; obtain rfl : a = 0 := by omega
            rw [Nat.zero_xor, Nat.zero_and]; omega
  | succ n ih =>
    intro a b h
    by_cases ha : a = 0
    · subst ha; rw [Nat.zero_xor, Nat.zero_and]; omega
    have h1 := ih (a / 2) (b / 2) (by omega)
    have x1 : (a ^^^ b) / 2 = a / 2 ^^^ b / 2 := Nat.xor_div_two_pow (a := a) (b := b) (n := 1)
    have x2 : (a ^^^ b) % 2 = (a % 2) ^^^ (b % 2) := Nat.xor_mod_two_pow (a := a) (b := b) (n := 1)
    have y1 : (a &&& b) / 2 = a / 2 &&& b / 2 := Nat.and_div_two_pow (a := a) (b := b) (n := 1)
    have y2 : (a &&& b) % 2 = (a % 2) &&& (b % 2) := Nat.and_mod_two_pow (a := a) (b := b) (n := 1)
    have e1 := Nat.div_add_mod (a ^^^ b) 2
    have e2 := Nat.div_add_mod (a &&& b) 2
    have e3 := Nat.div_add_mod a 2
    have e4 := Nat.div_add_mod b 2
    rw [x1, x2] at e1
    rw [y1, y2] at e2
    have c0 : (0 ^^^ 0 : Nat) = 0 := by decide
    have c1 : (0 ^^^ 1 : Nat) = 1 := by decide
    have c2 : (1 ^^^ 0 : Nat) = 1 := by decide
    have c3 : (1 ^^^ 1 : Nat) = 0 := by decide
    have d0 : (0 &&& 0 : Nat) = 0 := by decide
    have d1 : (0 &&& 1 : Nat) = 0 := by decide
    have d2 : (1 &&& 0 : Nat) = 0 := by decide
    have d3 : (1 &&& 1 : Nat) = 1 := by decide
    generalize a ^^^ b = X at *
    generalize a &&& b = Y at *
    generalize a / 2 ^^^ b / 2 = X' at *
    generalize a / 2 &&& b / 2 = Y' at *
    rcases Nat.mod_two_eq_zero_or_one a with ea | ea <;> rcases Nat.mod_two_eq_zero_or_one b with eb | eb <;> rw [ea, eb] at e1 e2 <;> rw [ea] at e3 <;> rw [eb] at e4 <;> simp only [c0, c1, c2, c3] at e1 <;> simp only [d0, d1, d2, d3] at e2 <;> omega
theorem and_nat (a b : Nat) : Builtin.bitAnd (a : Int) (b : Int) = ((a &&& b : Nat) : Int) := by
  rw [bitAnd_pp (by omega) (by omega)]; simp
theorem xor_nat (a b : Nat) : Builtin.bitXor (a : Int) (b : Int) = ((a ^^^ b : Nat) : Int) := by
  rw [bitXor_and, and_nat]
  have := nat_xor_and a a b (Nat.le_refl _)
  omega

section
variable {w : World} {A : Around} {E : Value → Shared → Prop} {s : Shared} {env : Env} {a b : Nat} {t u : Tok}
theorem evN (n : Nat) {i : Int} {k : Nat} {pos : Pos} {M : Model} {Q : Value → Shared → Prop} (h : Q (.int (n : Int) s.toks) { s with toks := s.toks + 1 }) (e : i = (n : Int) := by rfl) : wpAny M A (eval (.Constant (.int i) k pos) env) Q E s := by
  subst e; exact wpAny_Constant_int h
theorem opAnd {Q : Value → Shared → Prop} (h : Q (.int ((a &&& b : Nat) : Int) s.toks) { s with toks := s.toks + 1 }) : wpAny (model Prg w) A (binaryOp .BitAnd (.int (a : Int) t) (.int (b : Int) u)) Q E s := and_int (by rw [and_nat]; exact h)
theorem opXor {Q : Value → Shared → Prop} (h : Q (.int ((a ^^^ b : Nat) : Int) s.toks) { s with toks := s.toks + 1 }) : wpAny (model Prg w) A (binaryOp .BitXor (.int (a : Int) t) (.int (b : Int) u)) Q E s := xor_int (by rw [xor_nat]; exact h)
theorem opShr {Q : Value → Shared → Prop} (h : Q (.int ((a >>> b : Nat) : Int) s.toks) { s with toks := s.toks + 1 }) : wpAny (model Prg w) A (binaryOp .RShift (.int (a : Int) t) (.int (b : Int) u)) Q E s := 
  rshift_int (by omega) (by
    have e : (a : Int).fdiv (2 ^ (b : Int).toNat) = ((a >>> b : Nat) : Int) := by
      rw [Int.toNat_natCast, Nat.shiftRight_eq_div_pow, Int.fdiv_eq_ediv_of_nonneg _ (Int.pow_nonneg (by decide))]
      norm_cast
    rw [e]; exact h)
theorem iopShr {Q : Value → Shared → Prop} (h : Q (.int ((a >>> b : Nat) : Int) s.toks) { s with toks := s.toks + 1 }) : wpAny (model Prg w) A (inplaceOp .RShift (.int (a : Int) t) (.int (b : Int) u)) Q E s := 
  irshift_int (by omega) (by
    have e : (a : Int).fdiv (2 ^ (b : Int).toNat) = ((a >>> b : Nat) : Int) := by
      rw [Int.toNat_natCast, Nat.shiftRight_eq_div_pow, Int.fdiv_eq_ediv_of_nonneg _ (Int.pow_nonneg (by decide))]
      norm_cast
    rw [e]; exact h)
theorem opAdd {Q : Value → Shared → Prop} (h : Q (.int ((a + b : Nat) : Int) s.toks) { s with toks := s.toks + 1 }) : wpAny (model Prg w) A (binaryOp .Add (.int (a : Int) t) (.int (b : Int) u)) Q E s := PyProof.Rows.add_int (by rw [← Int.natCast_add]; exact h)
theorem opMul {Q : Value → Shared → Prop} (h : Q (.int ((a * b : Nat) : Int) s.toks) { s with toks := s.toks + 1 }) (ha : a < 2 ^ 60) (hb : b < 2 ^ 60) : wpAny (model Prg w) A (binaryOp .Mult (.int (a : Int) t) (.int (b : Int) u)) Q E s :=
  PyProof.Rows.mul_int (by rw [← Int.natCast_mul]; exact h) (IntMulOk.of_le (m := 60) (n := 60) (intBits_le_iff.mpr (by simpa using ha)) (intBits_le_iff.mpr (by simpa using hb)) (by decide))
theorem opPow2 {n : Nat} {Q : Value → Shared → Prop} (h : Q (.int ((2 ^ n : Nat) : Int) s.toks) { s with toks := s.toks + 1 }) (hn : n ≤ 1000) : wpAny (model Prg w) A (binaryOp .Pow (.int ((2 : Nat) : Int) t) (.int (n : Int) u)) Q E s :=
  pow_int_small (by omega) (by omega) (by decide) (by
    have e : ((2 : Nat) : Int) ^ (n : Int).toNat = ((2 ^ n : Nat) : Int) := by rw [Int.toNat_natCast]; norm_cast
    rw [e]; exact h)
theorem trN {Q : Bool → Shared → Prop} (h : Q (decide (a ≠ 0)) s) : wpAny (model Prg w) A (truthy (.int (a : Int) t)) Q E s := PyProof.Rows.truthy_int (by
  have e : ((a : Int) != 0) = decide (a ≠ 0) := by
    by_cases q : a = 0
    · subst q; rfl
    · have : ¬ ((a : Int) = 0) := by omega
      simp [q, this]
  rw [e]; exact h)
theorem eqN {Q : Value → Shared → Prop} (h : Q (.bool (decide (a = b))) s) : wpAny (model Prg w) A (compareOp .Eq (.int (a : Int) t) (.int (b : Int) u)) Q E s := PyProof.Rows.eq_int (by
  have e : ((a : Int) == (b : Int)) = decide (a = b) := by
    by_cases q : a = b
    · subst q; simp
    · have : ¬ ((a : Int) = (b : Int)) := by omega
      simp [q, this]
  rw [e]; exact h)
theorem neN {Q : Value → Shared → Prop} (h : Q (.bool (decide (a ≠ b))) s) : wpAny (model Prg w) A (compareOp .NotEq (.int (a : Int) t) (.int (b : Int) u)) Q E s := PyProof.Rows.ne_int (by
  have e : ((a : Int) != (b : Int)) = decide (a ≠ b) := by
    by_cases q : a = b
    · subst q; simp
    · have : ¬ ((a : Int) = (b : Int)) := by omega
      simp [q, this]
  rw [e]; exact h)
end
end Mine
end
/-! text L5 -/
section
open PySem PySem.Calls PySem.W PyProof.Rows
namespace Mine
section
variable {w : World} {A : Around} {E : Value → Shared → Prop} {s : Shared} {H₀ : Heap} {mg mb : Str → Option Value} {env : Env} {x : Str} {p pos : Pos} {e e1 e2 e3 : Expr} {rest : List Expr} {M : Model} {Q : Value → Shared → Prop}

theorem items1 {QL : List Value → Shared → Prop} (h : wpAny M A (eval e env) (fun v s₁ => QL [v] s₁) E s) (he : starEach [e] env = [(false, eval e env)] := by rfl) : wpAny M A (spliced (backTo pos (starEach [e] env))) QL E s :=
  wpAny_items_cons (wpAny_mono h (fun v s₁ h₁ => wpAny_items_nil h₁) fun _ _ e => e) he
theorem items2 {QL : List Value → Shared → Prop} (h : wpAny M A (eval e env) (fun v s₁ => wpAny M A (eval e1 env) (fun v1 s₂ => QL [v, v1] s₂) E s₁) E s)
    (he : starEach [e, e1] env = (false, eval e env) :: starEach [e1] env := by rfl) (he1 : starEach [e1] env = [(false, eval e1 env)] := by rfl) : wpAny M A (spliced (backTo pos (starEach [e, e1] env))) QL E s :=
  wpAny_items_cons (wpAny_mono h (fun v s₁ h₁ => items1 h₁ he1) fun _ _ e => e) he
theorem items3 {QL : List Value → Shared → Prop} (h : wpAny M A (eval e env) (fun v s₁ => wpAny M A (eval e1 env) (fun v1 s₂ => wpAny M A (eval e2 env) (fun v2 s₃ => QL [v, v1, v2] s₃) E s₂) E s₁) E s)
    (he : starEach [e, e1, e2] env = (false, eval e env) :: starEach [e1, e2] env := by rfl) (he1 : starEach [e1, e2] env = (false, eval e1 env) :: starEach [e2] env := by rfl) (he2 : starEach [e2] env = [(false, eval e2 env)] := by rfl) : wpAny M A (spliced (backTo pos (starEach [e, e1, e2] env))) QL E s :=
  wpAny_items_cons (wpAny_mono h (fun v s₁ h₁ => items2 h₁ he1 he2) fun _ _ e => e) he

/-- a call of a type or of a built-in by its name -/
theorem callT {T : String} (hn : nsIn (Kp w) mainGlobals x = some none) (hv : bootBuiltins x = some (.type T)) (G : Gx w H₀ mg mb) (B : Bk H₀ s.heap) (hk : env.scope.kind = .function) (hg : env.globals = mainGlobals) (hb : env.builtins = builtinsNs)
    (h : wpAny M A (spliced (backTo pos (starEach (e :: rest) env))) (fun vs s₁ => wpAny M A (call (.type T) vs) Q E s₁) E s)
    (hl : env.kindOf x = some .globalImplicit := by rfl) (hx : x ≠ "__name__" := by decide) (hd : (x == ("__debug__" : Str)) = false := by decide)
    (he : starEach (e :: rest) env = (false, eval e env) :: starEach rest env := by rfl) (hplain : (backTo pos (starEach rest env)).any (·.1) = false := by rfl) :
    wpAny M A (eval (.Call (.Name x p) (e :: rest) [] pos) env) Q E s :=
  wpAny_Call_NameR (evB G B hk hg hb hn hv (callWith_type1 h he hplain) hl hx hd)
theorem callBl {id : String} (hn : nsIn (Kp w) mainGlobals x = some none) (hv : bootBuiltins x = some (.builtin id)) (G : Gx w H₀ mg mb) (B : Bk H₀ s.heap) (hk : env.scope.kind = .function) (hg : env.globals = mainGlobals) (hb : env.builtins = builtinsNs)
    (h : wpAny M A (spliced (backTo pos (starEach (e :: rest) env))) (fun vs s₁ => wpAny M A (call (.builtin id) vs) Q E s₁) E s)
    (hl : env.kindOf x = some .globalImplicit := by rfl) (hx : x ≠ "__name__" := by decide) (hd : (x == ("__debug__" : Str)) = false := by decide)
    (he : starEach (e :: rest) env = (false, eval e env) :: starEach rest env := by rfl) (hplain : (backTo pos (starEach rest env)).any (·.1) = false := by rfl) :
    wpAny M A (eval (.Call (.Name x p) (e :: rest) [] pos) env) Q E s := by
  refine wpAny_Call_NameR (evB G B hk hg hb hn hv ?_ hl hx hd)
  rw [he] at h ⊢
  exact callWith_builtin (by show (false || (backTo pos (starEach rest env)).any (·.1)) = false; rw [hplain]; rfl) (evalArgs_plain h)
/-- the same by a name of the text's top -/
theorem callGl {id : String} (hn : nsIn (Kp w) mainGlobals x = some (some (.builtin id))) (G : Gx w H₀ mg mb) (B : Bk H₀ s.heap) (hk : env.scope.kind = .function) (hg : env.globals = mainGlobals)
    (h : wpAny M A (spliced (backTo pos (starEach (e :: rest) env))) (fun vs s₁ => wpAny M A (call (.builtin id) vs) Q E s₁) E s)
    (hl : env.kindOf x = some .globalImplicit := by rfl) (hd : (x == ("__debug__" : Str)) = false := by decide)
    (he : starEach (e :: rest) env = (false, eval e env) :: starEach rest env := by rfl) (hplain : (backTo pos (starEach rest env)).any (·.1) = false := by rfl) :
    wpAny M A (eval (.Call (.Name x p) (e :: rest) [] pos) env) Q E s := by
  refine wpAny_Call_NameR (evG G B hk hg hn ?_ hl hd)
  rw [he] at h ⊢
  exact callWith_builtin (by show (false || (backTo pos (starEach rest env)).any (·.1)) = false; rw [hplain]; rfl) (evalArgs_plain h)
/-- a def of the text -/
theorem callDf {a : Addr} (hn : nsIn (Kp w) mainGlobals x = some (some (.ref a))) (hkp : keepIn (Kp w) (.ref a) = true) (G : Gx w H₀ mg mb) (B : Bk H₀ s.heap) (hk : env.scope.kind = .function) (hg : env.globals = mainGlobals)
    (h : wpAny M A (spliced (backTo pos (starEach (e :: rest) env))) (fun vs s₁ => Bk H₀ s₁.heap ∧ wpAny M A (call (.ref a) vs) Q E s₁) E s)
    (hl : env.kindOf x = some .globalImplicit := by rfl) (hd : (x == ("__debug__" : Str)) = false := by decide)
    (he : starEach (e :: rest) env = (false, eval e env) :: starEach rest env := by rfl) (hplain : (backTo pos (starEach rest env)).any (·.1) = false := by rfl) :
    wpAny M A (eval (.Call (.Name x p) (e :: rest) [] pos) env) Q E s :=
  wpAny_Call_NameR (evG G B hk hg hn (callWith_K (G.inn B |> fun X => X) hkp (wpAny_mono h (fun vs s₁ h₁ => ⟨G.inn h₁.1, h₁.2⟩) fun _ _ e => e) he hplain) hl hd)
end

section
variable {w : World} {A : Around} {E : Value → Shared → Prop} {s : Shared} {Q : Value → Shared → Prop}

theorem sub1 (x : Str) (v : Value) (r : List (Str × Value)) : ∀ y u, List.lookup y [(x, v)] = some u → List.lookup y ((x, v) :: r) = some u := fun y u h => by
  rw [List.lookup_cons] at h ⊢
  split at h
  · exact h
  · cases h
theorem mem1 {P : Addr → Prop} {a : Addr} (h : P a) : ∀ b ∈ [a], P b := fun b hb => by rw [List.mem_singleton] at hb; subst hb; exact h
theorem mem2 {P : Addr → Prop} {a c : Addr} (h : P a) (h' : P c) : ∀ b ∈ [a, c], P b := fun b hb => by
  rcases List.mem_cons.mp hb with e | hb
  · subst e; exact h
  · exact mem1 h' b hb
theorem none_of_keep {h h' : Heap} {a : Addr} (k : Keep h h') (e : h'.get? a = none) : h.get? a = none := by
  cases q : h.get? a with
  | none => rfl
  | some o => rw [k _ _ q] at e; cases e

theorem none_of_keepX {X : Addr → Prop} {h h' : Heap} {a : Addr} (k : KeepX X h h') (n : ¬ X a) (e : h'.get? a = none) : h.get? a = none := by
  cases q : h.get? a with
  | none => rfl
  | some o => rw [k _ _ n q] at e; cases e

/-- what a range hands on to a loop -/
def RgSt (I : Addr) (a : Int) (c : Int) (n : Nat) (i : Nat) (h : Heap) : Prop := IsRangeIter h I (a + (i : Nat) * c) ((n : Int) - (i : Nat)) c
theorem src_range {x : Str} {px : Pos} (hh : A.handled = none) (I : Addr) (a c : Int) (n : Nat) : Src w A (.Name x px) I [I] [I] n (fun i v _ => ∃ t, v = .int (a + i * c) t) (RgSt I a c n) := Src.name (Walks.range hh I a c n) fun i h st b hb => by rw [List.mem_singleton] at hb; subst hb; exact ⟨_, st⟩

theorem iter_range {r : Addr} {a b c : Int} {t u v : Tok} {n : Nat} (hr : IsRange s.heap r a b c t u v) (hsm : Builtin.Range.small a b c = true) (hn : Builtin.Range.rangeSize a b c = (n : Int))
    (h : ∀ I s', s.heap.get? I = none → RgSt I a c n 0 s'.heap → Sm No s s' → Q (.ref I) s') : wpAny (model Prg w) A (pyIter (.ref r)) Q E s := by
  refine wpAny_pyIter_range hr hsm (h _ _ new_of_size ?_ (Sm.of (Keep.push _)))
  rw [hn]
  unfold RgSt
  simpa using Heap.get?_push_size _ rfl

theorem call_rg1 {n : Nat} {t : Tok} (h : ∀ r s' t' u' v', s.heap.get? r = none → IsRange s'.heap r 0 (n : Int) 1 t' u' v' → Sm No s s' → Q (.ref r) s') : wpAny (model Prg w) A (call (.type "range") [.int (n : Int) t]) Q E s :=
  call_range_1 (h _ _ _ _ _ new_of_size (IsRange.new ..) (Sm.of (Keep.push _)))
theorem call_rg2 {a n : Int} {t u : Tok} (h : ∀ r s' t' u' v', s.heap.get? r = none → IsRange s'.heap r a n 1 t' u' v' → Sm No s s' → Q (.ref r) s') : wpAny (model Prg w) A (call (.type "range") [.int a t, .int n u]) Q E s :=
  call_range_2 (h _ _ _ _ _ new_of_size (IsRange.new ..) (Sm.of (Keep.push _)))

theorem small_nat {n : Nat} (h : n < 2 ^ 62) : Builtin.Range.small 0 (n : Int) 1 = true := small_one (by omega) (by omega) (by omega) (by omega)
theorem size_nat (n : Nat) : Builtin.Range.rangeSize 0 (n : Int) 1 = (n : Int) := by rw [rangeSize_one]; split <;> omega
end
end Mine
end
/-! text L6 -/
section
open PySem PySem.Calls PySem.W PyProof.Rows
namespace Mine
/-- an expression over ints, nothing made -/
def EvZ (w : World) (A : Around) (s : Shared) (env : Env) (e : Expr) (z : Int) : Prop :=
  ∀ (tk0 : Nat) (Q : Value → Shared → Prop) (E : Value → Shared → Prop), (∀ tk t, Q (.int z t) { s with toks := tk }) → wpAny (model Prg w) A (eval e env) Q E { s with toks := tk0 }
def EvT (w : World) (A : Around) (s : Shared) (env : Env) (e : Expr) (b : Bool) : Prop :=
  ∀ (tk0 : Nat) (Q : Bool → Shared → Prop) (E : Value → Shared → Prop), (∀ tk, Q b { s with toks := tk }) → wpAny (model Prg w) A (isTrue e env (eval e env)) Q E { s with toks := tk0 }
section
variable {w : World} {A : Around} {s : Shared} {H₀ : Heap} {env : Env} {k : Nat} {vals : List (Str × Value)} {x : Str} {pos : Pos} {l r : Expr} {a b : Nat} {y z : Int} {t : Tok}
theorem EvZ.run {e : Expr} {Q : Value → Shared → Prop} {E : Value → Shared → Prop} (h : EvZ w A s env e z) (q : ∀ tk t, Q (.int z t) { s with toks := tk }) : wpAny (model Prg w) A (eval e env) Q E s := h s.toks Q E q
theorem EvT.run {e : Expr} {b : Bool} {Q : Bool → Shared → Prop} {E : Value → Shared → Prop} (h : EvT w A s env e b) (q : ∀ tk, Q b { s with toks := tk }) : wpAny (model Prg w) A (isTrue e env (eval e env)) Q E s := h s.toks Q E q
theorem EvZ.loc (F : Frm H₀ env k s.heap vals) (hv : vals.lookup x = some (.int z t)) (hl : env.kindOf x = some .local := by rfl) (hd : (x == ("__debug__" : Str)) = false := by decide) : EvZ w A s env (.Name x pos) z :=
  fun tk0 Q E h => evL (s := { s with toks := tk0 }) F hv (h tk0 t) hl hd
theorem EvZ.cell {c : Addr} (F : Frm H₀ env k s.heap vals) (hv : vals.lookup x = some (.int z t)) (hl : env.kindOf x = some .cell := by rfl) (hc : env.cells.lookup x = some c := by rfl)
    (h1 : env.locals < c := by show _ < _; omega) (h2 : c ≤ env.locals + k := by show _ ≤ _; omega) (hd : (x == ("__debug__" : Str)) = false := by decide) : EvZ w A s env (.Name x pos) z :=
  fun tk0 Q E h => evC (s := { s with toks := tk0 }) F hv (h tk0 t) hl hc h1 h2 hd
theorem EvZ.out {c : Addr} (hk : env.scope.kind = .function) (I : s.heap.IsCell c (some (.int z t))) (hl : env.kindOf x = some .cell := by rfl) (hc : env.cells.lookup x = some c := by rfl)
    (hd : (x == ("__debug__" : Str)) = false := by decide) : EvZ w A s env (.Name x pos) z :=
  fun tk0 Q E h => evO (s := { s with toks := tk0 }) hk I (h tk0 t) hl hc hd
theorem EvZ.kz {j : Nat} (n : Int) : EvZ w A s env (.Constant (.int n) j pos) n := fun tk0 Q E h => wpAny_Constant_int (h _ _)
theorem EvZ.kn {j : Nat} (n : Nat) {i : Int} (e : i = (n : Int) := by rfl) : EvZ w A s env (.Constant (.int i) j pos) (n : Int) := by subst e; exact EvZ.kz _
theorem EvZ.bin {op : Operator} {c : Int} (h1 : EvZ w A s env l y) (h2 : EvZ w A s env r z)
    (h : ∀ (tk0 : Nat) t u (Q : Value → Shared → Prop) (E : Value → Shared → Prop), (∀ tk v, Q (.int c v) { s with toks := tk }) → wpAny (model Prg w) A (binaryOp op (.int y t) (.int z u)) Q E { s with toks := tk0 }) :
    EvZ w A s env (.BinOp l op r pos) c := fun tk0 Q E q => wpAny_BinOp (h1 tk0 _ _ fun tk1 t => h2 tk1 _ _ fun tk2 u => h tk2 t u Q E q)
theorem EvZ.and (h1 : EvZ w A s env l a) (h2 : EvZ w A s env r b) : EvZ w A s env (.BinOp l .BitAnd r pos) ((a &&& b : Nat) : Int) := .bin h1 h2 fun _ _ _ _ _ q => opAnd (q _ _)
theorem EvZ.xor (h1 : EvZ w A s env l a) (h2 : EvZ w A s env r b) : EvZ w A s env (.BinOp l .BitXor r pos) ((a ^^^ b : Nat) : Int) := .bin h1 h2 fun _ _ _ _ _ q => opXor (q _ _)
theorem EvZ.shr (h1 : EvZ w A s env l a) (h2 : EvZ w A s env r b) : EvZ w A s env (.BinOp l .RShift r pos) ((a >>> b : Nat) : Int) := .bin h1 h2 fun _ _ _ _ _ q => opShr (q _ _)
theorem EvZ.addN (h1 : EvZ w A s env l a) (h2 : EvZ w A s env r b) : EvZ w A s env (.BinOp l .Add r pos) ((a + b : Nat) : Int) := .bin h1 h2 fun _ _ _ _ _ q => opAdd (q _ _)
theorem EvZ.mulN (h1 : EvZ w A s env l a) (h2 : EvZ w A s env r b) (ha : a < 2 ^ 60) (hb : b < 2 ^ 60) : EvZ w A s env (.BinOp l .Mult r pos) ((a * b : Nat) : Int) := .bin h1 h2 fun _ _ _ _ _ q => opMul (q _ _) ha hb
theorem EvZ.pow2 (h1 : EvZ w A s env l ((2 : Nat) : Int)) (h2 : EvZ w A s env r b) (hb : b ≤ 1000) : EvZ w A s env (.BinOp l .Pow r pos) ((2 ^ b : Nat) : Int) := .bin h1 h2 fun _ _ _ _ _ q => opPow2 (q _ _) hb
theorem EvZ.add (h1 : EvZ w A s env l y) (h2 : EvZ w A s env r z) : EvZ w A s env (.BinOp l .Add r pos) (y + z) := .bin h1 h2 fun _ _ _ _ _ q => PyProof.Rows.add_int (q _ _)
theorem EvZ.sub (h1 : EvZ w A s env l y) (h2 : EvZ w A s env r z) : EvZ w A s env (.BinOp l .Sub r pos) (y - z) := .bin h1 h2 fun _ _ _ _ _ q => PyProof.Rows.sub_int (q _ _)
theorem EvZ.mul (h1 : EvZ w A s env l y) (h2 : EvZ w A s env r z) (hy : y.natAbs < 2 ^ 60) (hz : z.natAbs < 2 ^ 60) : EvZ w A s env (.BinOp l .Mult r pos) (y * z) :=
  .bin h1 h2 fun _ _ _ _ _ q => PyProof.Rows.mul_int (q _ _) (IntMulOk.of_le (m := 60) (n := 60) (intBits_le_iff.mpr hy) (intBits_le_iff.mpr hz) (by decide))
theorem EvZ.mod (h1 : EvZ w A s env l y) (h2 : EvZ w A s env r z) (hz : z ≠ 0) : EvZ w A s env (.BinOp l .Mod r pos) (y.fmod z) := .bin h1 h2 fun _ _ _ _ _ q => mod_int' hz (q _ _)
theorem EvZ.fdiv (h1 : EvZ w A s env l y) (h2 : EvZ w A s env r z) (hz : z ≠ 0) (hp : Builtin.divisionGoesByPylong y z = false) : EvZ w A s env (.BinOp l .FloorDiv r pos) (y.fdiv z) := .bin h1 h2 fun _ _ _ _ _ q => floordiv_int hz (q _ _) (.inl hp)
theorem EvZ.neg {e : Expr} (h1 : EvZ w A s env e y) : EvZ w A s env (.UnaryOp .USub e pos) (-y) := fun tk0 Q E q => wpAny_UnaryOp (h1 tk0 _ _ fun tk1 t => PyProof.Rows.neg_int (q _ _))
theorem EvZ.cast {e : Expr} (h : EvZ w A s env e y) (q : y = z) : EvZ w A s env e z := q ▸ h

theorem EvT.val {e : Expr} (h : EvZ w A s env e z) (he : ∀ whole, isTrue e env whole = (do let v ← whole; standAt e.pos; holding [v] (truthy v)) := by intro _; rfl) : EvT w A s env e (z != 0) :=
  fun tk0 Q E q => wpAny_isTrue_value (h tk0 _ _ fun tk t => PyProof.Rows.truthy_int (q tk)) (he _)
theorem int_ne0 (n : Nat) : (((n : Nat) : Int) != 0) = decide (n ≠ 0) := by
  by_cases q : n = 0
  · subst q; rfl
  · have : ¬ ((n : Int) = 0) := by omega
    simp [q, this]
theorem EvT.valN {e : Expr} (h : EvZ w A s env e (a : Int)) (he : ∀ whole, isTrue e env whole = (do let v ← whole; standAt e.pos; holding [v] (truthy v)) := by intro _; rfl) : EvT w A s env e (decide (a ≠ 0)) :=
  int_ne0 a ▸ EvT.val h he
theorem EvT.cmp {op : CmpOp} {c : Bool} (h1 : EvZ w A s env l y) (h2 : EvZ w A s env r z)
    (h : ∀ (tk0 : Nat) t u (Q : Value → Shared → Prop) (E : Value → Shared → Prop), Q (.bool c) { s with toks := tk0 } → wpAny (model Prg w) A (compareOp op (.int y t) (.int z u)) Q E { s with toks := tk0 })
    (hm : behindInMarks op r = false := by with_unfolding_all rfl) : EvT w A s env (.Compare l [op] [r] pos) c :=
  fun tk0 Q E q => wpAny_isTrue_Compare1 (h1 tk0 _ _ fun tk1 t => h2 tk1 _ _ fun tk2 u => h tk2 t u _ _ (wpAny_truthy_bool (q tk2))) hm
theorem EvT.eq (h1 : EvZ w A s env l y) (h2 : EvZ w A s env r z) (hm : behindInMarks .Eq r = false := by with_unfolding_all rfl) : EvT w A s env (.Compare l [.Eq] [r] pos) (decide (y = z)) := .cmp h1 h2 (fun _ _ _ _ _ q => PyProof.Rows.eq_int (by
  have e : (y == z) = decide (y = z) := by by_cases q : y = z <;> simp [q]
  rw [e]; exact q)) hm
theorem EvT.ne (h1 : EvZ w A s env l y) (h2 : EvZ w A s env r z) (hm : behindInMarks .NotEq r = false := by with_unfolding_all rfl) : EvT w A s env (.Compare l [.NotEq] [r] pos) (decide (y ≠ z)) := .cmp h1 h2 (fun _ _ _ _ _ q => PyProof.Rows.ne_int (by
  have e : (y != z) = decide (y ≠ z) := by by_cases q : y = z <;> simp [q]
  rw [e]; exact q)) hm
theorem EvT.ge (h1 : EvZ w A s env l y) (h2 : EvZ w A s env r z) (hm : behindInMarks .GtE r = false := by with_unfolding_all rfl) : EvT w A s env (.Compare l [.GtE] [r] pos) (decide (z ≤ y)) := .cmp h1 h2 (fun _ _ _ _ _ q => PyProof.Rows.ge_int q) hm
theorem EvT.gt (h1 : EvZ w A s env l y) (h2 : EvZ w A s env r z) (hm : behindInMarks .Gt r = false := by with_unfolding_all rfl) : EvT w A s env (.Compare l [.Gt] [r] pos) (decide (z < y)) := .cmp h1 h2 (fun _ _ _ _ _ q => PyProof.Rows.gt_int q) hm
theorem EvT.lt (h1 : EvZ w A s env l y) (h2 : EvZ w A s env r z) (hm : behindInMarks .Lt r = false := by with_unfolding_all rfl) : EvT w A s env (.Compare l [.Lt] [r] pos) (decide (y < z)) := .cmp h1 h2 (fun _ _ _ _ _ q => PyProof.Rows.lt_int q) hm
theorem EvZ.ife {test body orelse : Expr} {b : Bool} (ht : EvT w A s env test b) (h1 : b = true → EvZ w A s env body y) (h2 : b = false → EvZ w A s env orelse z) : EvZ w A s env (.IfExp test body orelse pos) (if b then y else z) :=
  fun tk0 Q E q => wpAny_IfExp (ht tk0 _ _ fun tk => by
    cases b with
    | true => exact h1 rfl tk _ _ q
    | false => exact h2 rfl tk _ _ q)

/-! statements over ints -/
variable {E : Value → Shared → Prop} {Q : Flow → Shared → Prop} {pos' : Pos} {value : Expr}
theorem asZ (F : Frm H₀ env k s.heap vals) (h : EvZ w A s env value z) (q : ∀ s' t, Frm H₀ env k s'.heap ((x, .int z t) :: vals) → Sm (Inter env.locals k) s s' → Q .next s')
    (hl : env.kindOf x = some .local := by rfl) (hs : swapsWith value (some (.Name x pos')) pos.line env = pure false := by rfl) : wpAny (model Prg w) A (exec (.Assign [.Name x pos'] value pos) env) Q E s :=
  asL (h.run fun tk t => ⟨_, F, fun s' F' S => q s' t F' S⟩) hl hs
theorem asF (H₀ : Heap) (k : Nat) (h : wpAny (model Prg w) A (eval value env) (fun v s₁ => ∃ vals, Frm H₀ env k s₁.heap vals ∧ ∀ s', Frm H₀ env k s'.heap ((x, v) :: vals) → Sm (Inter env.locals k) s₁ s' → Q .next s') E s)
    (hl : env.kindOf x = some .local := by rfl) (hs : swapsWith value (some (.Name x pos')) pos.line env = pure false := by rfl) : wpAny (model Prg w) A (exec (.Assign [.Name x pos'] value pos) env) Q E s := asL h hl hs
theorem augZ {op : Operator} {y : Int} {u : Tok} (F : Frm H₀ env k s.heap vals) (hv : vals.lookup x = some (.int y u)) (h : EvZ w A s env value z) {c : Int}
    (ho : ∀ (tk0 : Nat) t u (Q : Value → Shared → Prop) (E : Value → Shared → Prop), (∀ tk v, Q (.int c v) { s with toks := tk }) → wpAny (model Prg w) A (inplaceOp op (.int y t) (.int z u)) Q E { s with toks := tk0 })
    (q : ∀ s' t, Frm H₀ env k s'.heap ((x, .int c t) :: vals) → Sm (Inter env.locals k) s s' → Q .next s')
    (hl : env.kindOf x = some .local := by rfl) : wpAny (model Prg w) A (exec (.AugAssign (.Name x pos') op value pos) env) Q E s :=
  wpAny_AugAssign_Name (ldL F hv (h.run fun tk t => ho tk _ _ _ _ fun tk' t' => stL F (fun s' F' S => q s' t' F' S) hl) hl)
theorem ifT {test : Expr} {b : Bool} {body orelse : List Stmt} (h : EvT w A s env test b) (h1 : b = true → ∀ tk, wpAny (model Prg w) A (execs body env) Q E { s with toks := tk }) (h2 : b = false → ∀ tk, wpAny (model Prg w) A (execs orelse env) Q E { s with toks := tk }) :
    wpAny (model Prg w) A (exec (.If test body orelse pos) env) Q E s := wpAny_If (h.run fun tk => by
      cases b with
      | true => exact h1 rfl tk
      | false => exact h2 rfl tk)
theorem retZ (h : EvZ w A s env value z) (q : ∀ tk t, Q (.ret (.int z t)) { s with toks := tk }) : wpAny (model Prg w) A (exec (.Return (some value) pos) env) Q E s := wpAny_Return_some (h.run q)
end
end Mine
end
/-! text L7 -/
section
open PySem PySem.Calls PySem.W PyProof.Rows
namespace Mine
section
variable {w : World} {A : Around} {s : Shared} {H₀ : Heap} {env : Env} {k : Nat} {vals : List (Str × Value)} {x y z : Str} {px py pz pos : Pos} {u v t : Value} {E : Value → Shared → Prop} {Q : Unit → Shared → Prop}

/-- one name of a frame, a local or a cell of its own -/
def Own (env : Env) (k : Nat) (x : Str) : Prop := env.kindOf x = some .local ∨ (env.kindOf x = some .cell ∧ ∃ c, env.cells.lookup x = some c ∧ env.locals < c ∧ c ≤ env.locals + k)
theorem stO {M : Model} (F : Frm H₀ env k s.heap vals) (o : Own env k x)
    (h : ∀ s', Frm H₀ env k s'.heap ((x, v) :: vals) → Sm (Inter env.locals k) s s' → Q () s') : wpAny M A (storeName env x v) Q E s := by
  rcases o with hl | ⟨hl, c, hc, h1, h2⟩
  · exact stL F h hl
  · exact stC F h hl hc h1 h2
theorem asgN {M : Model} (F : Frm H₀ env k s.heap vals) (o : Own env k x)
    (h : ∀ s', Frm H₀ env k s'.heap ((x, v) :: vals) → Sm (Inter env.locals k) s s' → Q () s') : wpAny M A (assign (.Name x px) env v) Q E s := wpAny_assign_Name (stO F o h)

theorem ext_keep {h h' : Heap} (e : Heap.ExtBut h.objs.size h h') : Keep h h' := fun b o q => e b o (Nat.ne_of_lt (Heap.lt_size q)) q

theorem asgT2 {T : Addr} {j : Nat} (hh : A.handled = none) (F : Frm H₀ env k s.heap vals) (ht : s.heap.IsTuple T #[u, v]) (ox : Own env k x) (oy : Own env k y)
    (h : ∀ s', Frm H₀ env k s'.heap ((y, v) :: (x, u) :: vals) → Sm (Inter env.locals k) s s' → Q () s') : wpAny (model Prg w) A (assign (.Tuple [.Name x px, .Name y py] j pos) env (.ref T)) Q E s := by
  refine wpAny_assign_Tuple hh ht rfl rfl fun h' e => ?_
  have k1 : Keep s.heap h' := ext_keep e
  show wpAny _ _ (assignInOrder [assign (.Name x px) env, assign (.Name y py) env] [u, v]) Q E _
  refine wpAny_assignInOrder_more (asgN (s := { s with heap := h' }) (F.mono k1) ox fun s₂ F₂ S₂ => wpAny_assignInOrder_more (asgN F₂ oy fun s₃ F₃ S₃ => wpAny_assignInOrder_none (h s₃ F₃ ?_)))
  exact ⟨(KeepX.trans k1.toX S₂.k).trans S₃.k, S₃.g.trans S₂.g, S₃.o.trans S₂.o⟩
theorem asgT3 {T : Addr} {j : Nat} (hh : A.handled = none) (F : Frm H₀ env k s.heap vals) (ht : s.heap.IsTuple T #[u, v, t]) (ox : Own env k x) (oy : Own env k y) (oz : Own env k z)
    (h : ∀ s', Frm H₀ env k s'.heap ((z, t) :: (y, v) :: (x, u) :: vals) → Sm (Inter env.locals k) s s' → Q () s') : wpAny (model Prg w) A (assign (.Tuple [.Name x px, .Name y py, .Name z pz] j pos) env (.ref T)) Q E s := by
  refine wpAny_assign_Tuple hh ht rfl rfl fun h' e => ?_
  have k1 : Keep s.heap h' := ext_keep e
  show wpAny _ _ (assignInOrder [assign (.Name x px) env, assign (.Name y py) env, assign (.Name z pz) env] [u, v, t]) Q E _
  refine wpAny_assignInOrder_more (asgN (s := { s with heap := h' }) (F.mono k1) ox fun s₂ F₂ S₂ => wpAny_assignInOrder_more (asgN F₂ oy fun s₃ F₃ S₃ => wpAny_assignInOrder_more (asgN F₃ oz fun s₄ F₄ S₄ => wpAny_assignInOrder_none (h s₄ F₄ ?_))))
  exact ⟨((KeepX.trans k1.toX S₂.k).trans S₃.k).trans S₄.k, S₄.g.trans (S₃.g.trans S₂.g), S₄.o.trans (S₃.o.trans S₂.o)⟩
end

section
variable {w : World} {A : Around} {s : Shared} {env : Env} {pos : Pos} {E : Value → Shared → Prop}
/-- displays of written ints, and of written pairs -/
inductive CInts : List Expr → List Nat → Prop
  | nil : CInts [] []
  | cons {es ns k p i} (n : Nat) : i = (n : Int) → CInts es ns → CInts (.Constant (.int i) k p :: es) (n :: ns)
inductive CPairs : List Expr → List (Nat × Nat) → Prop
  | nil : CPairs [] []
  | cons {es ns k p k' p' j q i i'} (n m : Nat) : i = (n : Int) → i' = (m : Int) → CPairs es ns → CPairs (.Tuple [.Constant (.int i) k p, .Constant (.int i') k' p'] j q :: es) ((n, m) :: ns)
def IsPairs (h : Heap) (a : Addr) (ps : List (Nat × Nat)) : Prop := ∃ vs : List Value, h.IsList a vs.toArray ∧ F2 (fun v t => ∃ b t1 t2, v = .ref b ∧ h.IsTuple b #[.int (t.1 : Int) t1, .int (t.2 : Int) t2]) vs ps
theorem IsPairs.keep {h h' : Heap} {a : Addr} {ns : List (Nat × Nat)} (x : IsPairs h a ns) (k : KeepS h h') : IsPairs h' a ns :=
  let ⟨vs, l, f⟩ := x; ⟨vs, islist_keep l k, f.imp fun _ _ ⟨b, t1, t2, e, y⟩ => ⟨b, t1, t2, e, istup_keep y k⟩⟩

theorem items_ints : ∀ {es : List Expr} {ns : List Nat}, CInts es ns → ∀ (s : Shared) (QL : List Value → Shared → Prop), (∀ vs s', F2 IsN vs ns → Sm No s s' → QL vs s') → wpAny (model Prg w) A (spliced (backTo pos (starEach es env))) QL E s
  | _, _, .nil, s, QL, h => wpAny_items_nil (h [] s .nil (Sm.refl _ _))
  | _, _, .cons n e r, s, QL, h => wpAny_items_cons (evN n (items_ints r _ _ fun vs s' f S => h _ s' (.cons ⟨_, rfl⟩ f) ⟨S.k, S.g, S.o⟩) e) rfl
theorem sm_trans {s s' s'' : Shared} (a : Sm No s s') (b : Sm No s' s'') : Sm No s s'' := ⟨a.k.trans b.k, b.g.trans a.g, b.o.trans a.o⟩
theorem items_pairs : ∀ {es : List Expr} {ns : List (Nat × Nat)}, CPairs es ns → ∀ (s : Shared) (QL : List Value → Shared → Prop),
    (∀ vs s', F2 (fun v (t : Nat × Nat) => ∃ b t1 t2, v = Value.ref b ∧ s'.heap.IsTuple b #[.int (t.1 : Int) t1, .int (t.2 : Int) t2]) vs ns → Sm No s s' → QL vs s') → wpAny (model Prg w) A (spliced (backTo pos (starEach es env))) QL E s
  | _, _, .nil, s, QL, h => wpAny_items_nil (h [] s .nil (Sm.refl _ _))
  | _, _, .cons n m e e' r, s, QL, h => by
    refine wpAny_items_cons (wpAny_Tuple (items2 (evN n (evN m ⟨by show (2 : Nat) ≤ sizeLine; rw [sizeLine_eq]; decide, ?_⟩ e') e))) rfl
    refine items_pairs r _ _ fun vs s' f S => h _ s' (.cons ⟨_, s.toks, s.toks + 1, rfl, ?_⟩ f) ?_
    · exact istup_keep ⟨_, Heap.get?_push_size _ rfl, rfl, _, rfl⟩ (Keep.toS fun b o q => S.k b o (fun h => h) q)
    · exact ⟨fun b o nb q => S.k b o nb (Heap.get?_push_of_some _ q), S.g, S.o⟩

theorem f2_size {α β : Type} {R : α → β → Prop} {l : List α} {m : List β} (f : F2 R l m) (h : m.length ≤ 1000) : l.length ≤ sizeLine := by rw [f.length, sizeLine_eq]; omega

theorem list_ints {es : List Expr} {ns : List Nat} {Q : Value → Shared → Prop} (c : CInts es ns) (hn : ns.length ≤ 1000) (h : ∀ a s', s.heap.get? a = none → IsNats s'.heap a ns → Sm No s s' → Q (.ref a) s') : wpAny (model Prg w) A (eval (.List es pos) env) Q E s := by
  refine wpAny_List (items_ints c _ _ fun vs s' f S => ⟨f2_size f hn, h _ _ (none_of_keep S.kp new_of_size) ⟨vs, ⟨_, Heap.get?_push_size _ rfl, rfl, _, rfl⟩, f⟩ ⟨fun b o nb q => Heap.get?_push_of_some _ (S.k b o nb q), S.g, S.o⟩⟩)
theorem list_pairs {es : List Expr} {ns : List (Nat × Nat)} {Q : Value → Shared → Prop} (c : CPairs es ns) (hn : ns.length ≤ 1000) (h : ∀ a s', s.heap.get? a = none → IsPairs s'.heap a ns → Sm No s s' → Q (.ref a) s') : wpAny (model Prg w) A (eval (.List es pos) env) Q E s := by
  refine wpAny_List (items_pairs c _ _ fun vs s' f S => ⟨f2_size f hn, h _ _ (none_of_keep S.kp new_of_size) ⟨vs, ⟨_, Heap.get?_push_size _ rfl, rfl, _, rfl⟩, f.imp ?_⟩ ⟨fun b o nb q => Heap.get?_push_of_some _ (S.k b o nb q), S.g, S.o⟩⟩)
  rintro v t ⟨b, t1, t2, e, q⟩
  exact ⟨b, t1, t2, e, istup_keep q (Keep.push _).toS⟩

/-- a walk along a list -/
theorem iter_list {a : Addr} {xs : Array Value} {Q : Value → Shared → Prop} (hl : s.heap.IsList a xs)
    (h : ∀ I s', s.heap.get? I = none → a ≠ I → s'.heap.IsListIter I a 0 → s'.heap.IsList a xs → Sm No s s' → Q (.ref I) s') : wpAny (model Prg w) A (pyIter (.ref a)) Q E s := by
  refine wpAny_pyIter_list hl (h _ _ new_of_size ?_ ⟨_, Heap.get?_push_size _ rfl, rfl, rfl⟩ (hl.push _) (Sm.of (Keep.push _)))
  obtain ⟨o, e, _⟩ := hl
  exact Nat.ne_of_lt (Heap.lt_size e)
end

theorem fsi_list {es : List Expr} {p : Pos} {env : Env} (x : Value) : foldedSetIterable (.List es p) env x = pure x := by rfl
theorem fsi_name {y : Str} {p : Pos} {env : Env} (x : Value) : foldedSetIterable (.Name y p) env x = pure x := by rfl
theorem fsi_call {f : Expr} {as : List Expr} {ks : List Keyword} {p : Pos} {env : Env} (x : Value) : foldedSetIterable (.Call f as ks p) env x = pure x := by rfl
theorem fsi_bin {a b : Expr} {o : Operator} {p : Pos} {env : Env} (x : Value) : foldedSetIterable (.BinOp a o b p) env x = pure x := by rfl

/-- a for along a list that stands in the frame of a def: X is the frame -/
theorem for_list {w : World} {A : Around} {E : Value → Shared → Prop} {s : Shared} {target iter : Expr} {body : List Stmt} {env : Env} {pos : Pos} {Q : Flow → Shared → Prop} {H₀ : Heap} {k : Nat} (hh : A.handled = none)
    (h : wpAny (model Prg w) A (eval iter env) (fun xv s₁ => ∃ a xs, ∃ V : Nat → Heap → List (Str × Value) → Prop, xv = .ref a ∧ s₁.heap.IsList a xs ∧ Sm No s s₁ ∧ (∃ vals, Frm H₀ env k s₁.heap vals ∧ V 0 s₁.heap vals) ∧ (∀ i h h' vals, V i h vals → KeepS h h' → V i h' vals) ∧
      (∀ i v s₃ vals, xs[i]? = some v → Frm H₀ env k s₃.heap vals → V i s₃.heap vals → KeepS s₁.heap s₃.heap → KeepX (Inter env.locals k) s₁.heap s₃.heap →
        wpAny (model Prg w) A (assign target env v) (fun _ s₄ => wpAny (model Prg w) A (execs body env) (fun f s₅ => (f = .next ∨ f = .cont) ∧ (∃ vals', Frm H₀ env k s₅.heap vals' ∧ V (i + 1) s₅.heap vals') ∧ Sm (Inter env.locals k) s₃ s₅) (fun _ _ => False) s₄) (fun _ _ => False) s₃) ∧
      (∀ s' vals, Frm H₀ env k s'.heap vals → V xs.size s'.heap vals → Sm (Inter env.locals k) s s' → Q .next s')) E s)
    (hs : ∀ x, foldedSetIterable iter env x = pure x := by intro _; rfl) :
    wpAny (model Prg w) A (exec (.For target iter body [] pos) env) Q E s := by
  refine for_own (Inter env.locals k) (wpAny_mono h (fun xv s₁ h₁ => ?_) fun _ _ e => e) hs
  obtain ⟨a, xs, V, rfl, hl, S01, ⟨vals, F, v0⟩, hV, turn, fin⟩ := h₁
  refine iter_list hl fun I s₂ hI hne st hl₂ S12 => ?_
  have hIn : ¬ Inter env.locals k I := F.notNew hI
  have han : ¬ Inter env.locals k a := fun hb => by
    obtain ⟨o, e, d, _⟩ := F.full a hb
    obtain ⟨o', e', _, n, d'⟩ := hl
    rw [e] at e'; cases e'; exact d _ _ d'
  refine ⟨I, [I, a], [I], xs.size, _, _, fun i h => ∃ vals, Frm H₀ env k h vals ∧ V i h vals, rfl, Src.listT hh I a hne xs, ⟨st, hl₂⟩, sm_trans S01 S12, mem1 (none_of_keep S01.kp hI), mem2 hIn han, ?_, ⟨vals, F.mono S12.kp, hV _ _ _ _ v0 S12.kp.toS⟩, ?_, ?_⟩
  · rintro i h h' st ⟨vals, f, q⟩ kp
    refine ⟨vals, f.monoX kp fun b hb hm => by rw [List.mem_singleton] at hm; subst hm; exact hIn hb, hV _ _ _ _ q fun b o xs n e d => kp b o (fun hm => ?_) e⟩
    have hm := List.mem_singleton.mp hm
    subst hm
    obtain ⟨o', e', _, d'⟩ := st.1
    rw [e] at e'; cases e'; rw [d] at d'; cases d'
  · rintro i v s₃ hi p ⟨vals', F₃, q⟩ S23 _
    have kx : KeepX (Inter env.locals k) s₁.heap s₃.heap := fun b o nb e => S23.k b o (fun hb => by
      rcases hb with hb | hb
      · exact nb hb
      · rw [List.mem_singleton] at hb; subst hb; rw [hI] at e; cases e) (S12.kp b o e)
    exact turn i v s₃ vals' p F₃ q (F.keepS kx) kx
  · rintro s' ⟨vals', F', q⟩ S'
    exact fin s' vals' F' q S'
end Mine
end
/-! text L8 -/
section
open PySem PySem.Calls PySem.W PyProof.Rows
namespace Mine

theorem cellsFrom_acc : ∀ (names : List (Str × NameKind)) (n : Nat) (acc : List (Str × Addr)), cellsFrom n names acc = cellsFrom n names [] ++ acc
  | [], _, _ => rfl
  | (x, kd) :: r, n, acc => by
    unfold cellsFrom
    split
    · rw [cellsFrom_acc r (n + 1) ((x, n) :: acc), cellsFrom_acc r (n + 1) [(x, n)]]; simp
    · exact cellsFrom_acc r n acc

/-- the environment of a comprehension, its own cells with it -/
abbrev cenvK (scope : Scope) (cl : List (Str × Addr)) (C : Addr) (env : Env) : Env :=
  { scope := relabel scope env, locals := C, globals := env.globals, cells := cellsFrom (C + 1) scope.names cl, qual := env.qual, func := none, code := env.code, frame := env.frame, builtins := env.builtins }

theorem comp_env {M : Model} {A : Around} {E : Value → Shared → Prop} {s : Shared} {H₀ : Heap} {scope : Scope} {cl : List (Str × Addr)} {env : Env} {Q : Env → Shared → Prop} (B : Bk H₀ s.heap) (hk : scope.kind = .function)
    (hcn : ((cellsFrom 0 scope.names []).map (·.1)).Nodup) (hcl : ∀ x c, (x, c) ∈ cl → @LT.lt Nat _ c s.heap.objs.size) (hgl : env.globals = mainGlobals) (hbn : env.builtins = builtinsNs)
    (h : ∀ cenv s', cenv.locals = s.heap.objs.size → { cenv with scope := relabel scope env } = cenvK scope cl s.heap.objs.size env → Frm H₀ (cenvK scope cl s.heap.objs.size env) (ncells scope) s'.heap [] → Sm No s s' → Q cenv s') :
    wpAny M A (newFunctionEnv scope env.globals cl [] env.qual none .none (some env)) Q E s := by
  simp only [newFunctionEnv, Option.isSome_some, if_true]
  refine wpAny_bind (wpAny_alloc ?_)
  refine wpAny_bind (wpAny_layCells _ (fun name kind cells => by cases hkc : kind == NameKind.cell <;> simp [hkc]) _ _ _ _ ?_)
  simp only [List.forIn_nil]
  refine wpAny_bind (wpAny_pure (wpAny_pure ?_))
  have ok := cellsFrom_ok scope.names (s.heap.push { cls := .type "dict", data := .dict #[] }) (s.heap.objs.size + 1) [] ⟨fun _ _ hm => (nomatch hm), List.Pairwise.nil⟩ (by rw [Heap.size_push]; exact Nat.le_refl _)
  rw [Heap.size_push] at ok
  have esz : ({ s with heap := s.heap.push { cls := .type "dict", data := .dict #[] } } : Shared).heap.objs.size = s.heap.objs.size + 1 := Heap.size_push ..
  rw [esz]
  have kp : Keep s.heap (pushCells (s.heap.push { cls := .type "dict", data := .dict #[] }) scope.names) := fun b o e => pushCells_keeps _ _ b o (Heap.get?_push_of_some _ e)
  refine h _ _ rfl rfl ?_ (Sm.of (tk := s.toks) kp)
  have acc := cellsFrom_acc scope.names (s.heap.objs.size + 1) cl
  have look : ∀ x c, (cellsFrom (s.heap.objs.size + 1) scope.names cl).lookup x = some c → @LT.lt Nat _ s.heap.objs.size c → (x, c) ∈ cellsFrom (s.heap.objs.size + 1) scope.names [] := fun x c e hc => by
    rw [acc] at e
    rcases List.mem_append.mp (mem_of_lookup e) with q | q
    · exact q
    · exact absurd (hcl x c q) (Nat.lt_asymm hc)
  refine ⟨hk, ⟨_, (Heap.Ns.new s.heap (.type "dict")).keeps (pushCells_keeps _ _), fun x v _ hv => by cases hv⟩, fun x c _ hc h1 _ => ⟨_, (ok.empty x c (look x c hc h1)).1, fun v hv => by cases hv⟩, fun x y c hx hy hc => name_of_addr ok.apart (look x c hx hc) (look y c hy hc), fun b hb => ?_, fun b hb => frame_new B hb.1, hgl, hbn⟩
  have hb2 : @LE.le Nat _ b (s.heap.objs.size + ncells scope) := hb.2
  rcases Nat.lt_or_ge s.heap.objs.size b with hlt | hge
  · obtain ⟨y, hy⟩ := cellsFrom_all scope.names (s.heap.objs.size + 1) [] b (.inr ⟨hlt, by unfold ncells at hb2; omega⟩)
    obtain ⟨o, e, d⟩ := (ok.empty y b hy).1
    exact ⟨o, e, fun xs n q => (by rw [d] at q; cases q), fun xs q => (by rw [d] at q; cases q)⟩
  · have e : b = s.heap.objs.size := Nat.le_antisymm hge hb.1
    subst e
    exact ⟨_, pushCells_keeps _ _ _ _ (Heap.get?_push_size _ rfl), fun xs n q => (by cases q), fun xs q => (by cases q)⟩

abbrev Tests (env : Env) (ifs : List Expr) : Sem Bool := forIn ifs true fun c r => if r = true then do let ok ← isTrue c env (eval c env); pure (ForInStep.yield ok) else pure (ForInStep.yield r)

theorem compLoop_own {w : World} {A : Around} {R : Result → Shared → Prop} {s : Shared} {elt target iter : Expr} {ifs : List Expr} {scope : Scope} {pos : Pos} {it acc : Value} {env : Env} (I : Nat → Shared → Prop)
    (turn : ∀ n s, I n s → wpAny (model Prg w) A (pyNext it) (fun r s₁ => match r with
      | none => R (.ok .next) s₁
      | some v => wpAny (model Prg w) A (letOwnedTupleGo target it v) (fun _ s₁' => wpAny (model Prg w) A (assign target env v) (fun _ s₂ =>
          wpAny (model Prg w) A (Tests env ifs) (fun ok s₃ =>
            if ok = true then wpAny (model Prg w) A (eval elt env) (fun x s₄ =>
              wpAny (model Prg w) A (call (.builtin "list.append") [acc, x]) (fun _ s₅ => ∃ m, m < n ∧ I m s₅) (fun _ _ => False) s₄) (fun _ _ => False) s₃
            else ∃ m, m < n ∧ I m s₃) (fun _ _ => False) s₂) (fun _ _ => False) s₁') (fun _ _ => False) s₁) (fun _ _ => False) s)
    (n : Nat) (h : I n s) :
    codeAny (model Prg w) A (.compLoop (.ListComp elt [⟨target, iter, ifs, 0⟩] scope pos) 0 it acc env) R s := by
  refine codeAny_loop rfl I (fun n s hI => ?_) n h
  show wpAny _ A ((compTurn (.ListComp elt [⟨target, iter, ifs, 0⟩] scope pos) 0 it acc env).onRaise (fun x => do noteFrame x env; theTreesLotGoes x)) _ _ s
  refine wpAny_noted ?_
  rw [compTurn_list]
  refine wpAny_bind (wpAny_standAt (wpAny_bind (wpAny_mono (turn n s hI) (fun r s₁ h₁ => ?_) fun _ _ h' => h'.elim)))
  cases r with
  | none => exact wpAny_pure h₁
  | some v =>
    refine wpAny_bind (wpAny_mono h₁ (fun _ s₁' h₁' => ?_) fun _ _ h' => h'.elim)
    refine wpAny_bind (wpAny_mono h₁' (fun _ s₂ h₂ => wpAny_bind (wpAny_mono h₂ (fun ok s₃ h₃ => ?_) fun _ _ h' => h'.elim)) fun _ _ h' => h'.elim)
    cases ok with
    | false => exact wpAny_pure ⟨rfl, h₃⟩
    | true =>
      exact wpAny_bind (wpAny_bind (wpAny_mono h₃ (fun x s₄ h₄ => wpAny_bind (wpAny_mono h₄ (fun _ s₅ h₅ => wpAny_pure (wpAny_pure ⟨rfl, h₅⟩)) fun _ _ h' => h'.elim)) fun _ _ h' => h'.elim))

/-- kept: what is new since h -/
def NewK (h h₁ h' : Heap) : Prop := ∀ b o, h.get? b = none → h₁.get? b = some o → h'.get? b = some o
/-- the list D, made since h, its items by Fl -/
def Made (Fl : Nat → Value → Heap → Prop) (p : Nat → Bool) (n : Nat) (h h₁ : Heap) (D : Addr) : Prop :=
  ∀ h', NewK h h₁ h' → ∃ ys : List Value, h'.IsList D ys.toArray ∧ F2 (fun i y => Fl i y h') ((List.range n).filter p) ys

/-- what a comprehension's source and turns must do -/
def CompGo (w : World) (A : Around) (H₀ : Heap) (env : Env) (elt target : Expr) (ifs : List Expr) (scope : Scope) (cl : List (Str × Addr)) (s : Shared) (Fin : Addr → (Nat → Value → Heap → Prop) → (Nat → Bool) → Nat → Prop) (it : Value) (s₂ : Shared) : Prop :=
  ∃ I fp wr n P St, ∃ p : Nat → Bool, ∃ Fl : Nat → Value → Heap → Prop, it = .ref I ∧ Src w A target I fp wr n P St ∧ n ≤ 1000 ∧ St 0 s₂.heap ∧ Sm No s s₂ ∧ (∀ b ∈ wr, s.heap.get? b = none) ∧
    (∀ C i v s₃, i < n → (∀ b, Inter C (ncells scope) b → s₂.heap.get? b = none) → P i v s₃.heap → Frm H₀ (cenvK scope cl C env) (ncells scope) s₃.heap [] → Sm No s s₃ → Bk H₀ s₃.heap → 
      wpAny (model Prg w) A (assign target (cenvK scope cl C env) v) (fun _ s₄ => wpAny (model Prg w) A (Tests (cenvK scope cl C env) ifs) (fun ok s₅ => ok = p i ∧
        (if p i then wpAny (model Prg w) A (eval elt (cenvK scope cl C env)) (fun y s₆ => Sm (Inter C (ncells scope)) s₃ s₆ ∧ (∃ vals, Frm H₀ (cenvK scope cl C env) (ncells scope) s₆.heap vals) ∧ ∀ h', NewK s₃.heap s₆.heap h' → Fl i y h') (fun _ _ => False) s₅
         else Sm (Inter C (ncells scope)) s₃ s₅ ∧ ∃ vals, Frm H₀ (cenvK scope cl C env) (ncells scope) s₅.heap vals)) (fun _ _ => False) s₄) (fun _ _ => False) s₃) ∧
    (∀ D, Fin D Fl p n)

theorem frm_none {H₀ : Heap} {env : Env} {k : Nat} {h : Heap} {vals : List (Str × Value)} (F : Frm H₀ env k h vals) : Frm H₀ env k h [] := F.sub fun _ _ h => by cases h

theorem range_filter_succ (p : Nat → Bool) (i : Nat) : (List.range (i + 1)).filter p = (List.range i).filter p ++ (if p i then [i] else []) := by
  rw [List.range_succ, List.filter_append]
  cases h : p i <;> simp [h]

theorem comp_core {w : World} {A : Around} {E : Value → Shared → Prop} {s : Shared} {H₀ : Heap} {env : Env} {elt target iter : Expr} {ifs : List Expr} {scope : Scope} {cl : List (Str × Addr)} {pos : Pos} {use : Option (Value → Sem Unit)} {Q : Value → Shared → Prop}
    (hs : ∀ x, foldedSetIterable iter env x = pure x) (hclos : closureFor scope env = pure cl) (hk : scope.kind = .function) (hnames : ∀ x ∈ scope.names, x.2 = .local → scope.names.lookup x.1 = some .local)
    (hcn : ((cellsFrom 0 scope.names []).map (·.1)).Nodup) (hcl : ∀ x c, (x, c) ∈ cl → ∃ o, s.heap.get? c = some o) (hgl : env.globals = mainGlobals) (hbn : env.builtins = builtinsNs) (B : Bk H₀ s.heap)
    (h : wpAny (model Prg w) A (eval iter env) (fun xv s₁ => wpAny (model Prg w) A (pyIter xv) (CompGo w A H₀ env elt target ifs scope cl s (fun D Fl p n => ∀ C s', s.heap.get? D = none → s.heap.get? C = none → C ≠ D → (∃ m, s'.heap.Ns C m) → Sm No s s' →
        (∀ h', (∀ b o, s.heap.get? b = none → b ≠ C → s'.heap.get? b = some o → h'.get? b = some o) → ∃ ys : List Value, h'.IsList D ys.toArray ∧ F2 (fun i y => Fl i y h') ((List.range n).filter p) ys) →
        compPost (model Prg w) A E use Q (.ref D) C (.ok .next) s')) E s₁) E s) :
    wpAny (model Prg w) A (comprehension (.ListComp elt [⟨target, iter, ifs, 0⟩] scope pos) scope env (firstIterPos [⟨target, iter, ifs, 0⟩] pos) (newList []) false (eval iter env) use) Q E s := by
  refine wpAny_comprehension_free rfl hs hclos hk hnames (wpAny_mono h (fun xv s₁ h₁ => wpAny_mono h₁ (fun it s₂ h₂ => ?_) fun _ _ e => e) fun _ _ e => e)
  obtain ⟨I, fp, wr, n, P, St, p, Fl, rfl, S, hn, st, S02, hwr, turn, fin⟩ := h₂
  have hfp : ∀ b ∈ fp, ∃ o, s₂.heap.get? b = some o := S.ex _ _ st
  refine wpAny_newObj_type ?_
  generalize hD : s₂.heap.objs.size = D
  have kD : Keep s₂.heap (s₂.heap.push { cls := .type "list", dict := none, data := .seq ([] : List Value).toArray }) := Keep.push _
  have gD : (s₂.heap.push { cls := .type "list", dict := none, data := .seq ([] : List Value).toArray }).get? D = some (LCg.lst []) := hD ▸ Heap.get?_push_size _ rfl
  have nD : s₂.heap.get? D = none := hD ▸ new_of_size
  have B₂ : Bk H₀ s₂.heap := B.mono S02.kp
  generalize s₂.heap.push { cls := .type "list", dict := none, data := .seq ([] : List Value).toArray } = h₃ at kD gD ⊢
  refine comp_env (H₀ := H₀) (B₂.mono kD) hk hcn (fun x c hm => by obtain ⟨o, e⟩ := hcl x c hm; exact Heap.lt_size (kD _ _ (S02.kp _ _ e))) hgl hbn fun cenv s₄ hloc hcenv F₄ S34 => ?_
  rw [hcenv, hloc]
  generalize hC : ({ s₂ with heap := h₃ } : Shared).heap.objs.size = C at F₄ ⊢
  have nC3 : h₃.get? C = none := hC ▸ new_of_size
  have nC : s₂.heap.get? C = none := none_of_keep kD nC3
  have k24 : Keep s₂.heap s₄.heap := kD.trans S34.kp
  have S24 : Sm No s₂ s₄ := ⟨k24.toX, S34.g, S34.o⟩
  have hCD : C ≠ D := fun e => by rw [e, gD] at nC3; cases nC3
  have gD4 : s₄.heap.get? D = some (LCg.lst []) := S34.kp _ _ gD
  have inC : ∀ b, Inter C (ncells scope) b → s₂.heap.get? b = none := fun b hb => none_of_keep kD (Heap.get?_none_of_le (hC ▸ hb.1))
  have offD : ¬ Inter C (ncells scope) D := fun hb => by obtain ⟨o, e, d, _⟩ := F₄.full D hb; rw [gD4] at e; cases e; exact d _ _ rfl
  have fpC : ∀ b ∈ fp, ¬ Inter C (ncells scope) b := fun b hb hi => by obtain ⟨o, e⟩ := hfp b hb; rw [inC b hi] at e; cases e
  have fpD : ∀ b ∈ fp, b ≠ D := fun b hb e => by obtain ⟨o, q⟩ := hfp b hb; rw [e, nD] at q; cases q
  let Z : Addr → Prop := fun b => b = D ∨ Inter C (ncells scope) b ∨ b ∈ wr
  have loop : codeAny (model Prg w) A (.compLoop (.ListComp elt [⟨target, iter, ifs, 0⟩] scope pos) 0 (.ref I) (.ref D) (cenvK scope cl C env)) (compPost (model Prg w) A E use Q (.ref D) C) s₄ := by
    refine compLoop_own (fun k s' => ∃ i, ∃ ys : List Value, i ≤ n ∧ k = n - i ∧ St i s'.heap ∧ Frm H₀ (cenvK scope cl C env) (ncells scope) s'.heap [] ∧ s'.heap.get? D = some (LCg.lst ys) ∧ ys.length ≤ i ∧ Sm Z s₄ s' ∧
      (∀ h', (∀ b o, s.heap.get? b = none → ¬ Z b → s'.heap.get? b = some o → h'.get? b = some o) → F2 (fun i y => Fl i y h') ((List.range i).filter p) ys)) ?_ n
      ⟨0, [], Nat.zero_le _, rfl, S.frame _ _ _ st fun b _ o e => k24 b o e, F₄, gD4, Nat.le_refl _, Sm.refl _ _, fun h' _ => .nil⟩
    rintro k s' ⟨i, ys, hi, rfl, st', F', gD', hlen, S4', res⟩
    have fromS : Sm No s s' := by
      refine (sm_trans S02 S24).fresh S4' fun b hb => ?_
      rcases hb with rfl | hb | hb
      · exact none_of_keep S02.kp nD
      · exact none_of_keep S02.kp (inC b hb)
      · exact hwr b hb
    by_cases hlt : i < n
    · refine wpAny_mono (S.item i s' (fun v s₅ => P i v s₅.heap ∧ St (i + 1) s₅.heap ∧ Sm (· ∈ wr) s' s₅) (fun _ _ => False) hlt st' fun v s₅ a b c => ⟨a, b, c⟩) (fun r s₅ hr => ?_) fun _ _ e => e.elim
      obtain ⟨v, rfl, hr⟩ := hr
      refine wpAny_mono hr (fun _ s₅' h₅ => ?_) fun _ _ e => e.elim
      obtain ⟨hP, st₅, S5⟩ := h₅
      have F₅ : Frm H₀ (cenvK scope cl C env) (ncells scope) s₅'.heap [] := F'.monoX S5.k fun b hb hm => fpC b (S.sub b hm) hb
      have gD5 : s₅'.heap.get? D = some (LCg.lst ys) := S5.k _ _ (fun hm => fpD D (S.sub D hm) rfl) gD'
      have fromS5 : Sm No s s₅' := fromS.fresh S5 hwr
      refine wpAny_mono (turn C i v s₅' hlt inC hP F₅ fromS5 (B.mono fromS5.kp)) (fun _ s₆ h₆ => wpAny_mono h₆ (fun ok s₇ h₇ => ?_) fun _ _ e => e.elim) fun _ _ e => e.elim
      obtain ⟨rfl, h₇⟩ := h₇
      have stay : ∀ s₈ : Shared, Sm (Inter C (ncells scope)) s₅' s₈ → St (i + 1) s₈.heap ∧ s₈.heap.get? D = some (LCg.lst ys) ∧ Sm Z s₄ s₈ := fun s₈ S8 =>
        ⟨S.frame _ _ _ st₅ fun b hb o e => S8.k b o (fpC b hb) e, S8.k _ _ offD gD5, (S4'.trans (S5.mono fun b hb => .inr (.inr hb))).trans (S8.mono fun b hb => .inr (.inl hb))⟩
      cases hp : p i with
      | false =>
        rw [hp] at h₇
        simp only [Bool.false_eq_true, if_false] at h₇ ⊢
        obtain ⟨S7, _, F₇⟩ := h₇
        obtain ⟨a, b, c⟩ := stay s₇ S7
        refine ⟨n - (i + 1), by omega, i + 1, ys, hlt, rfl, a, frm_none F₇, b, by omega, c, fun h' kp => ?_⟩
        rw [range_filter_succ, hp]
        simp only [Bool.false_eq_true, if_false, List.append_nil]
        exact res h' fun b o e1 nz e2 => kp b o e1 nz (S7.k b o (fun q => nz (.inr (.inl q))) (S5.k b o (fun q => nz (.inr (.inr q))) e2))
      | true =>
        rw [hp] at h₇
        simp only [if_true] at h₇ ⊢
        refine wpAny_mono h₇ (fun y s₈ h₈ => ?_) fun _ _ e => e.elim
        obtain ⟨S8, ⟨_, F₈⟩, hy⟩ := h₈
        obtain ⟨a, b, c⟩ := stay s₈ S8
        refine append_at (its := ys.toArray) b (fun h₉ hs₉ gD9 => ?_) (by rw [List.size_toArray, sizeLine_eq]; omega)
        have kx9 : KeepX Z s₈.heap h₉ := fun b o nb e => (hs₉.2 b (fun q => nb (.inl q))).trans e
        refine ⟨n - (i + 1), by omega, i + 1, ys ++ [y], hlt, rfl, S.frame _ _ _ a fun b hb o e => (hs₉.2 b (fpD b hb)).trans e, ?_, gD9.trans (congrArg some (LCg.lst_snoc ys y)), by rw [List.length_append, List.length_singleton]; omega, c.trans (Sm.ofX kx9), fun h' kp => ?_⟩
        · exact (frm_none F₈).monoX (X := (· = D)) (fun b o nb e => (hs₉.2 b nb).trans e) fun b hb e => offD (e ▸ hb)
        · rw [range_filter_succ, hp]
          simp only [if_true]
          refine F2.append (res h' fun b o e1 nz e2 => kp b o e1 nz (kx9 b o nz (S8.k b o (fun q => nz (.inr (.inl q))) (S5.k b o (fun q => nz (.inr (.inr q))) e2)))) (.cons (hy h' fun b o e1 e2 => ?_) .nil)
          have nz : ¬ Z b := fun q => by
            rcases q with rfl | q | q
            · rw [gD5] at e1; cases e1
            · obtain ⟨o', e', _⟩ := F₅.full b q; rw [e1] at e'; cases e'
            · obtain ⟨o', e'⟩ := S.ex _ _ st₅ b (S.sub b q); rw [e1] at e'; cases e'
          exact kp b o (by
            cases q : s.heap.get? b with
            | none => rfl
            | some o' => rw [fromS5.kp _ _ q] at e1; cases e1) nz (kx9 b o nz e2)
    · obtain rfl : i = n := Nat.le_antisymm hi (Nat.not_lt.mp hlt)
      refine S.done s' _ _ st' fun s₅ S5 => ?_
      refine fin D C s₅ (none_of_keep S02.kp nD) (none_of_keep S02.kp nC) hCD ?_ (fromS.fresh S5 hwr) fun h' kp => ⟨ys, ?_, ?_⟩
      · obtain ⟨ml, q, _⟩ := (F'.monoX S5.k fun b hb hm => fpC b (S.sub b hm) hb).ns
        exact ⟨ml, q⟩
      · exact ⟨_, kp D _ (none_of_keep S02.kp nD) (Ne.symm hCD) (S5.k _ _ (fun hm => fpD D (S.sub D hm) rfl) gD'), rfl, _, rfl⟩
      · exact res h' fun b o e1 nz e2 => kp b o e1 (fun e => nz (.inr (.inl (e ▸ ⟨Nat.le_refl _, Nat.le_add_right _ _⟩)))) (S5.k b o (fun q => nz (.inr (.inr q))) e2)
  exact codeAny_compStart_list loop (S.self 0 _ _ _ (S.frame _ _ _ st fun b _ o e => k24 b o e) loop)
end Mine
end
/-! text L9 -/
section
open PySem PySem.Calls PySem.W PyProof.Rows
namespace Mine
theorem made_here {Fl : Nat → Value → Heap → Prop} {p : Nat → Bool} {n : Nat} {h h₁ : Heap} {D : Addr} (m : Made Fl p n h h₁ D) : ∃ ys : List Value, h₁.IsList D ys.toArray ∧ F2 (fun i y => Fl i y h₁) ((List.range n).filter p) ys := m h₁ fun _ _ _ e => e
theorem Made.up {Fl : Nat → Value → Heap → Prop} {p : Nat → Bool} {n : Nat} {h h₁ h₂ : Heap} {D : Addr} (m : Made Fl p n h h₁ D) (k : NewK h h₁ h₂) : Made Fl p n h h₂ D := fun h' q => m h' fun b o e1 e2 => q b o e1 (k b o e1 e2)

section
variable {w : World} {A : Around} {E : Value → Shared → Prop} {s : Shared} {H₀ : Heap} {env : Env} {elt target iter : Expr} {ifs : List Expr} {scope : Scope} {cl : List (Str × Addr)} {pos : Pos}

theorem evComp {Q : Value → Shared → Prop}
    (hs : ∀ x, foldedSetIterable iter env x = pure x) (hclos : closureFor scope env = pure cl) (hk : scope.kind = .function) (hnames : ∀ x ∈ scope.names, x.2 = .local → scope.names.lookup x.1 = some .local)
    (hcn : ((cellsFrom 0 scope.names []).map (·.1)).Nodup) (hcl : ∀ x c, (x, c) ∈ cl → ∃ o, s.heap.get? c = some o) (hgl : env.globals = mainGlobals) (hbn : env.builtins = builtinsNs) (B : Bk H₀ s.heap)
    (h : wpAny (model Prg w) A (eval iter env) (fun xv s₁ => wpAny (model Prg w) A (pyIter xv) (CompGo w A H₀ env elt target ifs scope cl s (fun D Fl p n => ∀ s', s.heap.get? D = none → Sm No s s' → Made Fl p n s.heap s'.heap D → Q (.ref D) s')) E s₁) E s) :
    wpAny (model Prg w) A (eval (.ListComp elt [⟨target, iter, ifs, 0⟩] scope pos) env) Q E s := by
  rw [eval_ListComp]
  refine comp_core (use := none) hs hclos hk hnames hcn hcl hgl hbn B (wpAny_mono h (fun xv s₁ h₁ => wpAny_mono h₁ (fun it s₂ h₂ => ?_) fun _ _ e => e) fun _ _ e => e)
  obtain ⟨I, fp, wr, n, P, St, p, Fl, a1, a2, a3, a4, a5, a6, a7, fin⟩ := h₂
  refine ⟨I, fp, wr, n, P, St, p, Fl, a1, a2, a3, a4, a5, a6, a7, fun D C s' nD nC hCD ⟨m, hm⟩ S res => ⟨m, hm, fun h'' hs'' => ?_⟩⟩
  have kx : ∀ b o, b ≠ C → s'.heap.get? b = some o → h''.get? b = some o := fun b o nb e => (hs''.2 b nb).trans e
  refine fin D _ nD ⟨fun b o _ e => kx b o (fun q => by rw [q, nC] at e; cases e) (S.kp b o e), S.g, S.o⟩ fun g kg => res g fun b o e1 nb e2 => kg b o e1 (kx b o nb e2)

theorem asComp {y : Str} {py spos : Pos} {k : Nat} {vals : List (Str × Value)} {Q : Flow → Shared → Prop} (F : Frm H₀ env k s.heap vals)
    (hsw : swapsWith (.ListComp elt [⟨target, iter, ifs, 0⟩] scope pos) (some (.Name y py)) spos.line env = pure true) (hy : env.kindOf y = some .local)
    (hs : ∀ x, foldedSetIterable iter env x = pure x) (hclos : closureFor scope env = pure cl) (hk : scope.kind = .function) (hnames : ∀ x ∈ scope.names, x.2 = .local → scope.names.lookup x.1 = some .local)
    (hcn : ((cellsFrom 0 scope.names []).map (·.1)).Nodup) (hcl : ∀ x c, (x, c) ∈ cl → ∃ o, s.heap.get? c = some o) (B : Bk H₀ s.heap)
    (h : wpAny (model Prg w) A (eval iter env) (fun xv s₁ => wpAny (model Prg w) A (pyIter xv) (CompGo w A H₀ env elt target ifs scope cl s (fun D Fl p n => ∀ s', s.heap.get? D = none → Frm H₀ env k s'.heap ((y, .ref D) :: vals) → Sm (Inter env.locals k) s s' → Made Fl p n s.heap s'.heap D → Q .next s')) E s₁) E s) :
    wpAny (model Prg w) A (exec (.Assign [.Name y py] (.ListComp elt [⟨target, iter, ifs, 0⟩] scope pos) spos) env) Q E s := by
  rw [exec_Assign_Name_used _ _ _ _ hsw]
  refine wpAny_bind (wpAny_standAt (wpAny_bind ?_))
  show wpAny _ A (do let _ ← comprehension (.ListComp elt [⟨target, iter, ifs, 0⟩] scope pos) scope env (firstIterPos [⟨target, iter, ifs, 0⟩] pos) (newList []) false (eval iter env) (some (assign (.Name y py) env))) _ _ s
  refine wpAny_bind (wpAny_mono (comp_core (use := some (assign (.Name y py) env)) (Q := fun _ s' => Q .next s') hs hclos hk hnames hcn hcl F.gl F.bn B (wpAny_mono h (fun xv s₁ h₁ => wpAny_mono h₁ (fun it s₂ h₂ => ?_) fun _ _ e => e) fun _ _ e => e)) (fun _ s' hq => wpAny_pure (wpAny_pure hq)) fun _ _ e => e)
  obtain ⟨I, fp, wr, n, P, St, p, Fl, a1, a2, a3, a4, a5, a6, a7, fin⟩ := h₂
  refine ⟨I, fp, wr, n, P, St, p, Fl, a1, a2, a3, a4, a5, a6, a7, fun D C s' nD nC hCD ⟨m, hm⟩ S res => ?_⟩
  show wpAny _ A (assign (.Name y py) env (.ref D)) _ _ _
  have F' := F.mono S.kp
  have hnI : ∀ b, s.heap.get? b = none → ¬ Inter env.locals k b := fun b e => F.notNew e
  refine asgN F' (.inl hy) fun s'' F'' S'' => ?_
  have hCL : C ≠ env.locals := fun e => hnI C nC (e ▸ ⟨Nat.le_refl _, Nat.le_add_right _ _⟩)
  have hm'' : ∃ m'', s''.heap.Ns C m'' := ⟨m, ns_at hm fun o e => S''.k C o (hnI C nC) e⟩
  obtain ⟨m'', hm''⟩ := hm''
  refine ⟨m'', hm'', fun h3 hs3 => ?_⟩
  have kx : ∀ b o, b ≠ C → s''.heap.get? b = some o → h3.get? b = some o := fun b o nb e => (hs3.2 b nb).trans e
  refine fin D _ nD (F''.monoX (X := (· = C)) (fun b o nb e => kx b o nb e) fun b hb e => hnI C nC (e ▸ hb)) ⟨fun b o nb e => kx b o (fun q => by rw [q, nC] at e; cases e) (S''.k b o nb (S.kp b o e)), S''.g.trans S.g, S''.o.trans S.o⟩ fun g kg => res g fun b o e1 nb e2 => kg b o e1 (kx b o nb (S''.k b o (hnI b e1) e2))
end

/-! elements -/
theorem f2_map {α β γ : Type} {R : β → γ → Prop} {f : α → β} : ∀ {l : List α} {m : List γ}, F2 (fun a c => R (f a) c) l m → F2 R (l.map f) m
  | _, _, .nil => .nil
  | _, _, .cons h t => .cons h (f2_map t)
theorem F2.flip {α β : Type} {R : α → β → Prop} : ∀ {l : List α} {m : List β}, F2 R l m → F2 (fun b a => R a b) m l
  | _, _, .nil => .nil
  | _, _, .cons h t => .cons h t.flip
theorem made_nats {g : Nat → Nat} {p : Nat → Bool} {n : Nat} {h h₁ : Heap} {D : Addr} (m : Made (fun i v _ => IsN v (g i)) p n h h₁ D) : IsNats h₁ D (((List.range n).filter p).map g) := by
  obtain ⟨ys, hl, f⟩ := made_here m
  exact ⟨ys, hl, F2.flip (f2_map (R := fun a c => IsN c a) f)⟩
theorem filter_true {n : Nat} : (List.range n).filter (fun _ => true) = List.range n := List.filter_eq_self.mpr fun _ _ => rfl
theorem range_map_getD {α β : Type} (l : List α) (d : α) (f : α → β) : (List.range l.length).map (fun i => f (l.getD i d)) = l.map f := by
  apply List.ext_getElem
  · simp
  · intro i h1 h2
    have hi : i < l.length := by simpa using h1
    simp [List.getD_eq_getElem?_getD, List.getElem?_eq_getElem hi]

theorem made_map {g : Nat → Nat} {ns : List Nat} {h h₁ : Heap} {D : Addr} (m : Made (fun i v _ => IsN v (g (ns.getD i 0))) (fun _ => true) ns.length h h₁ D) : IsNats h₁ D (ns.map g) := by
  have := made_nats m
  rwa [filter_true, range_map_getD] at this

section
variable {w : World} {A : Around} {E : Value → Shared → Prop} {s₀ s : Shared} {H₀ : Heap} {env : Env} {elt : Expr} {x : Str} {px : Pos} {scope : Scope} {cl : List (Str × Addr)}
/-- along a list of ints, an int an element -/
theorem go_nats {a : Addr} {ns : List Nat} {Fin : Addr → (Nat → Value → Heap → Prop) → (Nat → Bool) → Nat → Prop} (hh : A.handled = none) (ha : IsNats s.heap a ns) (hlen : ns.length ≤ 1000) (S0 : Sm No s₀ s)
    (ox : scope.names.lookup x = some .local) (g : Nat → Nat)
    (turn : ∀ C s₃ n t, n ∈ ns → (∀ b, Inter C (ncells scope) b → s₀.heap.get? b = none) → Frm H₀ (cenvK scope cl C env) (ncells scope) s₃.heap [(x, .int (n : Int) t)] → Keep s₀.heap s₃.heap → Bk H₀ s₃.heap →
      wpAny (model Prg w) A (eval elt (cenvK scope cl C env)) (fun y s₆ => IsN y (g n) ∧ Sm No s₃ s₆) (fun _ _ => False) s₃)
    (fin : ∀ D, Fin D (fun i v _ => IsN v (g (ns.getD i 0))) (fun _ => true) ns.length) :
    wpAny (model Prg w) A (pyIter (.ref a)) (CompGo w A H₀ env elt (.Name x px) [] scope cl s₀ Fin) E s := by
  obtain ⟨vs, hl, f⟩ := ha
  have hlen' : vs.toArray.size = ns.length := by rw [List.size_toArray]; exact f.length
  refine iter_list hl fun I s₂ hI hne st hl₂ S2 => ?_
  refine ⟨I, [I, a], [I], vs.toArray.size, _, _, fun _ => true, _, rfl, Src.listT hh I a hne vs.toArray, by rw [hlen']; exact hlen, ⟨st, hl₂⟩, sm_trans S0 S2, mem1 (none_of_keep S0.kp hI), ?_, by rw [hlen']; exact fin⟩
  intro C i v s₃ hi nC hv F S3 B
  obtain ⟨n, hn, t, rfl⟩ := f.get' (by simpa using hv)
  refine asgN F (.inl (lookup_relabel_local ox)) fun s₄ F₄ S₄ => ?_
  refine wpAny_tests_nil ⟨rfl, ?_⟩
  simp only [if_true]
  have nC0 : ∀ b, Inter C (ncells scope) b → s₀.heap.get? b = none := fun b hb => none_of_keep (sm_trans S0 S2).kp (nC b hb)
  have k04 : Keep s₀.heap s₄.heap := (S3.fresh S₄ nC0).kp
  refine wpAny_mono (turn C s₄ n t (List.mem_of_getElem? hn) nC0 F₄ k04 (B.monoX S₄.k F.off)) (fun y s₅ h₅ => ?_) fun _ _ e => e
  obtain ⟨hy, S₅⟩ := h₅
  refine ⟨S₄.trans S₅.any, ⟨_, F₄.mono S₅.kp⟩, fun h' _ => ?_⟩
  have e : ns.getD i 0 = n := by rw [List.getD_eq_getElem?_getD, hn]; rfl
  rw [e]; exact hy
/-- two lists glued -/
theorem opCat {l b : Addr} {ns ms : List Nat} {Q : Value → Shared → Prop} (hl : IsNats s.heap l ns) (hb : IsNats s.heap b ms) (hn : ns.length + ms.length ≤ 1000)
    (h : ∀ a s', s.heap.get? a = none → IsNats s'.heap a (ns ++ ms) → Sm No s s' → Q (.ref a) s') : wpAny (model Prg w) A (binaryOp .Add (.ref l) (.ref b)) Q E s := by
  obtain ⟨vs, hl, f⟩ := hl
  obtain ⟨us, hb, g⟩ := hb
  obtain ⟨⟨cls, dd, data, sl⟩, ho, hc, n, hd⟩ := id hl
  obtain ⟨⟨cls2, dd2, data2, sl2⟩, ho2, hc2, n2, hd2⟩ := id hb
  simp only at hc hd hc2 hd2
  subst hc hd hc2 hd2
  have e : vs.toArray ++ us.toArray = (vs ++ us).toArray := by simp
  refine concat_meets ⟨_, ho, rfl⟩ ⟨_, ho2, rfl⟩ noFill_list_add seq_list_add PySem.F.slot_list_add PySem.F.entry_list_add (PySem.F.args_list_add_2 _ _) (list_addW l b vs.toArray us.toArray n n2 dd dd2 sl sl2 (by rw [List.size_toArray, List.size_toArray, f.length, g.length, sizeLine_eq]; omega)) ⟨ho, ho2, ?_⟩
  rw [e]
  exact h _ _ new_of_size ⟨vs ++ us, ⟨_, Heap.get?_push_size _ rfl, rfl, _, rfl⟩, f.append g⟩ (Sm.of (Keep.push _))
end
end Mine
end
/-! text D1 -/
section
open PySem PySem.Calls PySem.W PyProof.Rows
namespace Mine
def crcStep (c : Nat) : Nat := if c &&& 1 ≠ 0 then (c >>> 1) ^^^ 3988292384 else c >>> 1
def crcIt : Nat → Nat → Nat
  | 0, c => c
  | n + 1, c => crcStep (crcIt n c)
def crcN (c : Nat) : Nat := crcIt 8 c
section
variable {w : World} {A : Around} {E : Value → Shared → Prop} {s : Shared} {H₀ : Heap} {mg mb : Str → Option Value}
theorem crc_spec {n : Nat} {t : Tok} {Q : Value → Shared → Prop} (G : Gx w H₀ mg mb) (B : Bk H₀ s.heap) (R : Rm A 3)
    (h : ∀ v s', IsN v (crcN n) → Sm No s s' → Q v s') : wpAny (model Prg w) A (call (.ref 91) [.int (n : Int) t]) Q E s := by
  refine call_own (args := ⟨[.int (n : Int) t], []⟩) (binds := [(Str.ofString "crc", .int (n : Int) t)]) (nms := [Str.ofString "crc"]) G B (R.le (by decide : 2 ≤ 3)) (by with_unfolding_all rfl) (by with_unfolding_all rfl) (BindsTo.of_eq rfl) rfl rfl (by decide) (by decide) rfl rfl rfl ?_
  intro s₁ F S B₁ R₁
  generalize Around.deeper A _ = A₁ at R₁ ⊢
  refine wpAny_execs_cons ?_
  refine for_own (Inter s.heap.objs.size 0) ?_
  refine callT (by with_unfolding_all rfl) (by boot_fast) G B₁ rfl rfl rfl ?_
  refine items1 (evN 8 ?_)
  refine call_rg1 (n := 8) fun r s₂ t1 t2 t3 hr hrg S₂ => ?_
  refine iter_range hrg (small_nat (n := 8) (by decide)) (size_nat 8) fun I s₃ hI st S₃ => ?_
  have S13 : Sm No s₁ s₃ := ⟨(S₂.kp.trans S₃.kp).toX, S₃.g.trans S₂.g, S₃.o.trans S₂.o⟩
  have F₃ := F.mono S13.kp
  have hI1 := none_of_keep S₂.kp hI
  have hIn := F.notNew hI1
  refine ⟨I, [I], [I], 8, _, _, fun i h => ∃ t, Frm H₀ _ 0 h [(Str.ofString "crc", .int (crcIt i n : Nat) t)], rfl, src_range R₁.hd I 0 1 8, st, S13, mem1 hI1, mem1 hIn, ?_, ⟨t, F₃⟩, ?_, ?_⟩
  · rintro i h h' _ ⟨t, f⟩ k
    exact ⟨t, f.monoX k fun b hb hm => by rw [List.mem_singleton] at hm; subst hm; exact hIn hb⟩
  · rintro i v s₄ hi ⟨tv, rfl⟩ ⟨tc, F₄⟩ S₄ _
    refine wpAny_assign_Name (stL F₄ fun s₅ F₅ S₅ => ?_)
    refine wpAny_execs_cons (ifT (.valN (.and (.loc F₅ rfl) (.kn 1))) (fun hb tk => ?_) fun hb tk => ?_)
    · refine wpAny_execs_cons (asZ F₅ (.xor (.shr (.loc F₅ rfl) (.kn 1)) (.kn 3988292384)) fun s₆ t₆ F₆ S₆ => wpAny_execs_nil (wpAny_execs_nil ⟨.inl rfl, ⟨t₆, ?_⟩, S₅.trans S₆⟩))
      have e : crcIt (i + 1) n = crcIt i n >>> 1 ^^^ 3988292384 := by show crcStep _ = _; unfold crcStep; rw [if_pos (of_decide_eq_true hb)]
      rw [e]
      exact F₆.sub (sub1 _ _ _)
    · refine wpAny_execs_cons (augZ F₅ rfl (.kn 1) (fun _ _ _ _ _ q => iopShr (q _ _)) fun s₆ t₆ F₆ S₆ => wpAny_execs_nil (wpAny_execs_nil ⟨.inl rfl, ⟨t₆, ?_⟩, S₅.trans S₆⟩))
      have e : crcIt (i + 1) n = crcIt i n >>> 1 := by show crcStep _ = _; unfold crcStep; rw [if_neg (of_decide_eq_false hb)]
      rw [e]
      exact F₆.sub (sub1 _ _ _)
  · rintro s₄ ⟨t4, F₄⟩ S₄
    refine wpAny_execs_cons (wpAny_Return_some (evL F₄ rfl ?_))
    exact h _ _ ⟨_, rfl⟩ (S.fresh S₄ fun b hb => Heap.get?_none_of_le hb.1)
end
end Mine
end
/-! text D2 -/
section
open PySem PySem.Calls PySem.W PyProof.Rows
namespace Mine
def turnTab : List (Nat × Nat) := [(16, 65535), (8, 16711935), (4, 252645135), (2, 858993459), (1, 1431655765)]
def turn1 (w : Nat) (t : Nat × Nat) : Nat := (w >>> t.1 &&& t.2) + (w &&& t.2) * 2 ^ t.1
def turnedN (w : Nat) : Nat := turnTab.foldl turn1 w
def oddTab : List Nat := [16, 8, 4, 2, 1]
def oddN (n : Nat) : Nat := oddTab.foldl (fun n y => n ^^^ n >>> y) n &&& 1
def restStep (r : Nat) (p : Nat) : Nat := if r >>> (32 + p) &&& 1 = 1 then r ^^^ 4374732215 * 2 ^ p else r
def restIt : Nat → Nat → Nat
  | 0, r => r
  | i + 1, r => restStep (restIt i r) (7 - i)
def restN (w : Nat) : Nat := turnedN (restIt 8 (turnedN w * 256))

theorem turnTab_ok : ∀ p ∈ turnTab, p.2 < 2 ^ 60 ∧ p.1 ≤ 50 := by
  intro p hp
  simp only [turnTab, List.mem_cons, List.not_mem_nil, or_false] at hp
  rcases hp with rfl | rfl | rfl | rfl | rfl <;> exact ⟨by decide, by decide⟩
theorem turnedN_def (n : Nat) : turnedN n = turnTab.foldl turn1 n := rfl
theorem oddN_def (n : Nat) : oddN n = oddTab.foldl (fun n y => n ^^^ n >>> y) n &&& 1 := rfl
theorem foldl_take_succ {α β : Type} (f : β → α → β) (l : List α) (b : β) (i : Nat) (x : α) (h : l[i]? = some x) : (l.take (i + 1)).foldl f b = f ((l.take i).foldl f b) x := by
  rw [List.take_add_one, h, List.foldl_append]; rfl
theorem turned_lt (w : Nat) : turnedN w < 2 ^ 32 := by
  show turn1 (turn1 (turn1 (turn1 (turn1 w (16, 65535)) (8, 16711935)) (4, 252645135)) (2, 858993459)) (1, 1431655765) < 2 ^ 32
  generalize turn1 (turn1 (turn1 (turn1 w (16, 65535)) (8, 16711935)) (4, 252645135)) (2, 858993459) = z
  unfold turn1
  have h1 : z >>> 1 &&& 1431655765 ≤ 1431655765 := Nat.and_le_right
  have h2 : z &&& 1431655765 ≤ 1431655765 := Nat.and_le_right
  show (z >>> 1 &&& 1431655765) + (z &&& 1431655765) * 2 ^ 1 < 2 ^ 32
  omega

section
variable {w : World} {A : Around} {E : Value → Shared → Prop} {s : Shared} {H₀ : Heap} {mg mb : Str → Option Value}
theorem turned_spec {n : Nat} {t : Tok} {Q : Value → Shared → Prop} (G : Gx w H₀ mg mb) (B : Bk H₀ s.heap) (R : Rm A 3)
    (h : ∀ v s', IsN v (turnedN n) → Sm No s s' → Q v s') : wpAny (model Prg w) A (call (.ref 98) [.int (n : Int) t]) Q E s := by
  refine call_own (args := ⟨[.int (n : Int) t], []⟩) (binds := [(Str.ofString "word", .int (n : Int) t)]) (nms := [Str.ofString "word"]) G B (R.le (by decide : 2 ≤ 3)) (by with_unfolding_all rfl) (by with_unfolding_all rfl) (BindsTo.of_eq rfl) rfl rfl (by decide) (by decide) rfl rfl rfl ?_
  intro s₁ F S B₁ R₁
  generalize Around.deeper A _ = A₁ at R₁ ⊢
  refine wpAny_execs_cons ?_
  with_reducible refine for_list (H₀ := H₀) (k := 0) R₁.hd ?_ (hs := fsi_list)
  with_reducible refine list_pairs (ns := [(16, 65535), (8, 16711935), (4, 252645135), (2, 858993459), (1, 1431655765)]) ?_ ?_ ?_
  · exact .cons 16 65535 rfl rfl (.cons 8 16711935 rfl rfl (.cons 4 252645135 rfl rfl (.cons 2 858993459 rfl rfl (.cons 1 1431655765 rfl rfl .nil))))
  · decide
  intro a s₂ ha hp S₂
  change IsPairs s₂.heap a turnTab at hp
  obtain ⟨vs, hl, f⟩ := id hp
  have hlen : vs.length = 5 := f.length
  refine ⟨a, _, fun i _ vals => ∃ t, vals.lookup (Str.ofString "word") = some (.int (((turnTab.take i).foldl turn1 n : Nat) : Int) t), rfl, hl, S₂, ⟨_, F.mono S₂.kp, t, rfl⟩, fun _ _ _ _ h _ => h, ?_, ?_⟩
  · rintro i v s₃ vals hv F₃ ⟨tv, ht⟩ kS _
    obtain ⟨p, hp, b, t1, t2, rfl, hb⟩ := f.get' (by simpa using hv)
    have hb' := istup_keep hb kS
    refine asgT2 R₁.hd F₃ hb' (.inl rfl) (.inl rfl) fun s₄ F₄ S₄ => ?_
    have hp2 := turnTab_ok p (List.mem_of_getElem? hp)
    have e4 : List.lookup (Str.ofString "word") ((Str.ofString "part", Value.int (p.2 : Int) t2) :: (Str.ofString "way", Value.int (p.1 : Int) t1) :: vals) = some (.int (((turnTab.take i).foldl turn1 n : Nat) : Int) tv) := ht
    refine wpAny_execs_cons (asZ F₄ (.addN (.and (.shr (.loc F₄ e4) (.loc F₄ rfl)) (.loc F₄ rfl)) (.mulN (.and (.loc F₄ e4) (.loc F₄ rfl)) (.pow2 (.kn 2) (.loc F₄ rfl) (by omega)) ?_ ?_)) fun s₅ t₅ F₅ S₅ => wpAny_execs_nil ⟨.inl rfl, ⟨_, F₅, t₅, ?_⟩, S₄.trans S₅⟩)
    · exact Nat.lt_of_le_of_lt Nat.and_le_right hp2.1
    · exact Nat.pow_lt_pow_right (by decide) (by omega)
    · rw [foldl_take_succ _ _ _ _ _ hp]
      unfold turn1
      rfl
  · rintro s' vals F' ⟨tv, ht⟩ S'
    refine wpAny_execs_cons (retZ (.loc F' ht) fun tk t => ?_)
    refine h _ _ ⟨t, ?_⟩ (S.fresh S' fun b hb => Heap.get?_none_of_le hb.1)
    have e : turnTab.take vs.toArray.size = turnTab := by rw [List.size_toArray, hlen]; rfl
    rw [e, turnedN_def]

theorem odd_spec {n : Nat} {t : Tok} {Q : Value → Shared → Prop} (G : Gx w H₀ mg mb) (B : Bk H₀ s.heap) (R : Rm A 3)
    (h : ∀ v s', IsN v (oddN n) → Sm No s s' → Q v s') : wpAny (model Prg w) A (call (.ref 112) [.int (n : Int) t]) Q E s := by
  refine call_own (args := ⟨[.int (n : Int) t], []⟩) (binds := [(Str.ofString "number", .int (n : Int) t)]) (nms := [Str.ofString "number"]) G B (R.le (by decide : 2 ≤ 3)) (by with_unfolding_all rfl) (by with_unfolding_all rfl) (BindsTo.of_eq rfl) rfl rfl (by decide) (by decide) rfl rfl rfl ?_
  intro s₁ F S B₁ R₁
  generalize Around.deeper A _ = A₁ at R₁ ⊢
  refine wpAny_execs_cons ?_
  with_reducible refine for_list (H₀ := H₀) (k := 0) R₁.hd ?_ (hs := fsi_list)
  with_reducible refine list_ints (ns := oddTab) ?_ ?_ ?_
  · exact .cons _ rfl (.cons _ rfl (.cons _ rfl (.cons _ rfl (.cons _ rfl .nil))))
  · decide
  intro a s₂ ha hp S₂
  obtain ⟨vs, hl, f⟩ := id hp
  have hlen : vs.length = 5 := f.length
  refine ⟨a, _, fun i _ vals => ∃ t, vals.lookup (Str.ofString "number") = some (.int (((oddTab.take i).foldl (fun n y => n ^^^ n >>> y) n : Nat) : Int) t), rfl, hl, S₂, ⟨_, F.mono S₂.kp, t, rfl⟩, fun _ _ _ _ h _ => h, ?_, ?_⟩
  · rintro i v s₃ vals hv F₃ ⟨tv, ht⟩ kS _
    obtain ⟨p, hp, t1, rfl⟩ := f.get' (by simpa using hv)
    refine asgN F₃ (.inl rfl) fun s₄ F₄ S₄ => ?_
    have e4 : List.lookup (Str.ofString "number") ((Str.ofString "way", Value.int (p : Int) t1) :: vals) = some (.int (((oddTab.take i).foldl (fun n y => n ^^^ n >>> y) n : Nat) : Int) tv) := ht
    refine wpAny_execs_cons (asZ F₄ (.xor (.loc F₄ e4) (.shr (.loc F₄ e4) (.loc F₄ rfl))) fun s₅ t₅ F₅ S₅ => wpAny_execs_nil ⟨.inl rfl, ⟨_, F₅, t₅, ?_⟩, S₄.trans S₅⟩)
    rw [foldl_take_succ _ _ _ _ _ hp]; rfl
  · rintro s' vals F' ⟨tv, ht⟩ S'
    refine wpAny_execs_cons (retZ (.and (.loc F' ht) (.kn 1)) fun tk t => ?_)
    refine h _ _ ⟨t, ?_⟩ (S.fresh S' fun b hb => Heap.get?_none_of_le hb.1)
    have e : oddTab.take vs.toArray.size = oddTab := by rw [List.size_toArray, hlen]; rfl
    rw [e, oddN_def]
end
end Mine
end
/-! text D3 -/
section
open PySem PySem.Calls PySem.W PyProof.Rows
namespace Mine
section
variable {w : World} {A : Around} {E : Value → Shared → Prop} {s : Shared} {H₀ : Heap} {mg mb : Str → Option Value}
theorem small_down : Builtin.Range.small 7 (-1) (-1) = true := by decide
theorem size_down : Builtin.Range.rangeSize 7 (-1) (-1) = ((8 : Nat) : Int) := by decide

theorem rest_spec {n : Nat} {t : Tok} {Q : Value → Shared → Prop} (G : Gx w H₀ mg mb) (B : Bk H₀ s.heap) (R : Rm A 4)
    (h : ∀ v s', IsN v (restN n) → Sm No s s' → Q v s') : wpAny (model Prg w) A (call (.ref 105) [.int (n : Int) t]) Q E s := by
  refine call_own (args := ⟨[.int (n : Int) t], []⟩) (binds := [(Str.ofString "word", .int (n : Int) t)]) (nms := [Str.ofString "word"]) G B R (by with_unfolding_all rfl) (by with_unfolding_all rfl) (BindsTo.of_eq rfl) rfl rfl (by decide) (by decide) rfl rfl rfl ?_
  intro s₁ F S B₁ R₁
  generalize Around.deeper A _ = A₁ at R₁ ⊢
  refine wpAny_execs_cons ?_
  refine asF H₀ 0 ?_
  refine wpAny_BinOp ?_
  refine callDf (a := 98) (by with_unfolding_all rfl) (by with_unfolding_all rfl) G B₁ rfl rfl (items1 (evL F rfl ⟨B₁, ?_⟩))
  refine turned_spec G B₁ R₁ fun v s₂ hv S₂ => ?_
  obtain ⟨t₂, rfl⟩ := hv
  have F₂ := F.mono S₂.kp
  have B₂ := B₁.mono S₂.kp
  refine evN 256 (opMul ⟨_, F₂, fun s₃ F₃ S₃ => ?_⟩ (Nat.lt_trans (turned_lt n) (by decide)) (by decide))
  have B₃ : Bk H₀ s₃.heap := B₂.monoX S₃.k fun b hb => frame_new B hb.1
  refine wpAny_execs_cons ?_
  refine for_own (Inter s.heap.objs.size 0) ?_
  refine callT (by with_unfolding_all rfl) (by boot_fast) G B₃ rfl rfl rfl ?_
  refine items3 ((EvZ.kz 7).run fun tk1 t1 => (EvZ.neg (EvZ.kz 1)).run fun tk2 t2 => (EvZ.neg (EvZ.kz 1)).run fun tk3 t3 => ?_)
  refine call_range_3 (by decide) ?_ (Or.inl (by decide))
  refine iter_range (n := 8) (IsRange.new ..) small_down size_down fun I s₄ hI st S₄ => ?_
  have k34 : Keep s₃.heap s₄.heap := fun b o e => S₄.kp b o (Heap.get?_push_of_some _ e)
  have F₄ := F₃.mono k34
  have hI1 : s₃.heap.get? I = none := none_of_keep (Keep.push _) hI
  have hIn := F₃.notNew hI1
  refine ⟨I, [I], [I], 8, _, _, fun i h => ∃ vals, Frm H₀ _ 0 h vals ∧ ∃ t, vals.lookup (Str.ofString "rest") = some (.int (restIt i (turnedN n * 256) : Nat) t), rfl, src_range R₁.hd I 7 (-1) 8, st, ⟨k34.toX, S₄.g, S₄.o⟩, mem1 hI1, mem1 hIn, ?_, ⟨_, F₄, _, rfl⟩, ?_, ?_⟩
  · rintro i h h' _ ⟨vals, f, q⟩ k
    exact ⟨vals, f.monoX k fun b hb hm => by rw [List.mem_singleton] at hm; subst hm; exact hIn hb, q⟩
  · rintro i v s₅ hi ⟨tv, rfl⟩ ⟨vals, F₅, t5, q5⟩ S₅ _
    have e7 : (7 : Int) + (i : Int) * (-1) = ((7 - i : Nat) : Int) := by omega
    rw [e7]
    refine asgN F₅ (.inl rfl) fun s₆ F₆ S₆ => ?_
    have q6 : List.lookup (Str.ofString "rest") ((Str.ofString "place", Value.int ((7 - i : Nat) : Int) tv) :: vals) = some (.int (restIt i (turnedN n * 256) : Nat) t5) := q5
    refine wpAny_execs_cons (ifT (.eq (.and (.shr (.loc F₆ q6) (.addN (.kn 32) (.loc F₆ rfl))) (.kn 1)) (.kn 1)) (fun hb tk => ?_) fun hb tk => ?_)
    · refine wpAny_execs_cons (asZ F₆ (.xor (.loc F₆ q6) (.mulN (.kn 4374732215) (.pow2 (.kn 2) (.loc F₆ rfl) (by omega)) (by decide) (Nat.pow_lt_pow_right (by decide) (by omega)))) fun s₇ t₇ F₇ S₇ => wpAny_execs_nil (wpAny_execs_nil ⟨.inl rfl, ⟨_, F₇, t₇, ?_⟩, S₆.trans S₇⟩))
      have hb' : restIt i (turnedN n * 256) >>> (32 + (7 - i)) &&& 1 = 1 := by have := of_decide_eq_true hb; omega
      have e : restIt (i + 1) (turnedN n * 256) = restIt i (turnedN n * 256) ^^^ 4374732215 * 2 ^ (7 - i) := by show restStep _ _ = _; unfold restStep; rw [if_pos hb']
      rw [e]; rfl
    · refine wpAny_execs_nil (wpAny_execs_nil ⟨.inl rfl, ⟨_, F₆, t5, ?_⟩, S₆⟩)
      have hb' : ¬ restIt i (turnedN n * 256) >>> (32 + (7 - i)) &&& 1 = 1 := by have := of_decide_eq_false hb; omega
      have e : restIt (i + 1) (turnedN n * 256) = restIt i (turnedN n * 256) := by show restStep _ _ = _; unfold restStep; rw [if_neg hb']
      rw [e]; exact q6
  · rintro s₅ ⟨vals, F₅, t5, q5⟩ S₅
    have B₅ : Bk H₀ s₅.heap := B₃.monoX S₅.k fun b hb => frame_new B hb.1
    refine wpAny_execs_cons (wpAny_Return_some ?_)
    refine callDf (a := 98) (by with_unfolding_all rfl) (by with_unfolding_all rfl) G B₅ rfl rfl (items1 (evL F₅ q5 ⟨B₅, ?_⟩))
    refine turned_spec G B₅ R₁ fun v s₆ hv S₆ => h _ _ hv ?_
    exact (S.fresh (X := Inter s.heap.objs.size 0) (((S₂.any.trans S₃).trans S₅).trans S₆.any) fun b hb => Heap.get?_none_of_le hb.1)
end
end Mine
end
/-! text D4 -/
section
open PySem PySem.Calls PySem.W PyProof.Rows
namespace Mine
def sumStep (sums : List Nat) (x : Nat) : List Nat := sums ++ sums.map (· ^^^ x)
def sumsN (ws : List Nat) : List Nat := ws.foldl sumStep [0]
theorem sums_len : ∀ (ws : List Nat) (l : List Nat), (ws.foldl sumStep l).length = l.length * 2 ^ ws.length
  | [], l => by simp
  | x :: r, l => by rw [List.foldl_cons, sums_len r]; simp only [sumStep, List.length_append, List.length_map, List.length_cons, Nat.pow_succ]; rw [Nat.mul_comm (2 ^ r.length) 2, ← Nat.mul_assoc]; congr 1; omega

section
variable {w : World} {A : Around} {E : Value → Shared → Prop} {s : Shared} {H₀ : Heap} {mg mb : Str → Option Value}

theorem sums_spec {a : Addr} {ws : List Nat} {Q : Value → Shared → Prop} (G : Gx w H₀ mg mb) (B : Bk H₀ s.heap) (R : Rm A 3) (ha : IsNats s.heap a ws) (hlen : ws.length ≤ 5)
    (h : ∀ b s', s.heap.get? b = none → IsNats s'.heap b (sumsN ws) → Sm No s s' → Q (.ref b) s') : wpAny (model Prg w) A (call (.ref 117) [.ref a]) Q E s := by
  refine call_own (args := ⟨[.ref a], []⟩) (binds := [(Str.ofString "words", .ref a)]) (nms := [Str.ofString "words"]) G B (R.le (by decide : 2 ≤ 3)) (by with_unfolding_all rfl) (by with_unfolding_all rfl) (BindsTo.of_eq rfl) rfl rfl (by decide) (by decide) rfl rfl rfl ?_
  intro s₁ F S B₁ R₁
  generalize Around.deeper A _ = A₁ at R₁ ⊢
  refine wpAny_execs_cons ?_
  refine asF H₀ 1 ?_
  with_reducible refine list_ints (ns := [0]) ?_ ?_ ?_
  · exact .cons _ rfl .nil
  · decide
  intro b s₂ hb hn S₂
  refine ⟨_, F.mono S₂.kp, fun s₃ F₃ S₃ => ?_⟩
  have B₃ : Bk H₀ s₃.heap := (B₁.mono S₂.kp).monoX S₃.k fun b hb => frame_new B hb.1
  have S13 : Sm (Inter s.heap.objs.size 1) s₁ s₃ := S₂.any.trans S₃
  have k13 : KeepS s₁.heap s₃.heap := F.keepS S13.k
  have k03 : KeepS s.heap s₃.heap := S.kp.toS.trans k13
  refine wpAny_execs_cons ?_
  with_reducible refine for_list (H₀ := H₀) (k := 1) R₁.hd ?_ (hs := fsi_name)
  refine evL F₃ rfl ?_
  obtain ⟨vs, hl, f⟩ := ha.keep k03
  have hlen' : vs.length = ws.length := f.length
  refine ⟨a, _, fun i h vals => ∃ c, vals.lookup (Str.ofString "sums") = some (.ref c) ∧ s.heap.get? c = none ∧ IsNats h c (sumsN (ws.take i)), rfl, hl, Sm.refl _ _, ⟨_, F₃, b, rfl, none_of_keep S.kp hb, hn.keep ((F.mono S₂.kp).keepS S₃.k)⟩, ?_, ?_, ?_⟩
  · rintro i h h' vals ⟨c, e, n, q⟩ k
    exact ⟨c, e, n, q.keep k⟩
  · rintro i v s₄ vals hv F₄ ⟨c, hc, nc, hcn⟩ kS kX
    obtain ⟨x, hx, tx, rfl⟩ := f.get' (by simpa using hv)
    have B₄ : Bk H₀ s₄.heap := B₃.monoX kX fun b hb => frame_new B hb.1
    refine asgN F₄ (.inr ⟨rfl, s.heap.objs.size + 1, rfl, Nat.lt_succ_self _, Nat.le_refl _⟩) fun s₅ F₅ S₅ => ?_
    have B₅ : Bk H₀ s₅.heap := B₄.monoX S₅.k fun b hb => frame_new B hb.1
    have c5 : IsNats s₅.heap c (sumsN (ws.take i)) := hcn.keep (F₄.keepS S₅.k)
    have hc5 : List.lookup (Str.ofString "sums") ((Str.ofString "word", Value.int (x : Int) tx) :: vals) = some (.ref c) := hc
    refine wpAny_execs_cons ?_
    refine asF H₀ 1 ?_
    refine wpAny_BinOp ?_
    refine evL F₅ hc5 ?_
    have hlen5 : (sumsN (ws.take i)).length ≤ 32 := by
      unfold sumsN
      rw [sums_len]
      have : (ws.take i).length ≤ 5 := by rw [List.length_take]; omega
      calc [0].length * 2 ^ (ws.take i).length ≤ 1 * 2 ^ 5 := Nat.mul_le_mul (Nat.le_refl _) (Nat.pow_le_pow_right (by decide) this)
        _ = 32 := by decide
    have cellw : s₅.heap.IsCell (s.heap.objs.size + 1) (some (.int (x : Int) tx)) := by
      obtain ⟨ov, I, q⟩ := F₅.cl (Str.ofString "word") (s.heap.objs.size + 1) rfl rfl (Nat.lt_succ_self _) (Nat.le_refl _)
      rwa [q _ rfl] at I
    refine evComp (cl := [(Str.ofString "word", s.heap.objs.size + 1)]) fsi_name (by with_unfolding_all rfl) rfl (by decide) (by decide) ?_ rfl rfl B₅ ?_
    · intro y d hm
      have e : d = s.heap.objs.size + 1 := (Prod.mk.inj (List.mem_singleton.mp hm)).2
      obtain ⟨o, e', _⟩ := cellw
      exact ⟨o, e ▸ e'⟩
    refine evL F₅ hc5 ?_
    refine go_nats R₁.hd c5 (by omega) (Sm.refl _ _) rfl (fun y => y ^^^ x) (fun C s₆ n t hn nC F₆ S₆ B₆ => ?_) fun D s₆ nD S₆ m => ?_
    · refine (EvZ.xor (.loc F₆ rfl) (.out rfl (cellw.keeps S₆) rfl rfl)).run fun tk t => ⟨⟨_, rfl⟩, Sm.refl _ _⟩
    · have F₆ := F₅.mono S₆.kp
      have m' := made_map (g := fun y => y ^^^ x) m
      refine opCat (c5.keep S₆.kp.toS) m' (by rw [List.length_map]; omega) fun d s₇ nd hd S₇ => ⟨_, F₆.mono S₇.kp, fun s₈ F₈ S₈ => ?_⟩
      have S58 : Sm (Inter s.heap.objs.size 1) s₅ s₈ := (S₆.any.trans S₇.any).trans S₈
      refine wpAny_execs_nil ⟨.inl rfl, ⟨_, F₈, d, rfl, ?_, ?_⟩, S₅.trans S58⟩
      · have nI : ¬ Inter s.heap.objs.size 1 d := F₆.notNew nd
        exact none_of_keep S.kp (none_of_keepX S13.k nI (none_of_keepX kX nI (none_of_keepX S₅.k nI (none_of_keep S₆.kp nd))))
      · rw [List.take_add_one, hx]
        have e : sumsN (ws.take i ++ [x]) = sumsN (ws.take i) ++ (sumsN (ws.take i)).map (fun y => y ^^^ x) := by unfold sumsN; rw [List.foldl_append]; rfl
        simp only [Option.toList_some]
        rw [e]
        exact hd.keep ((F₆.mono S₇.kp).keepS S₈.k)
  · rintro s' vals F' ⟨c, hc, nc, hcn⟩ S'
    refine wpAny_execs_cons (wpAny_Return_some (evL F' hc ?_))
    have e : ws.take vs.toArray.size = ws := by rw [List.size_toArray, hlen', List.take_length]
    rw [e] at hcn
    refine h _ _ nc hcn (S.fresh (X := Inter s.heap.objs.size 1) (S13.trans S') fun b hb => Heap.get?_none_of_le hb.1)
end
end Mine
end
/-! text L10 -/
section
open PySem PySem.Calls PySem.W PyProof.Rows
namespace Mine
/-- an expression that reads a value, nothing made -/
def EvV (w : World) (A : Around) (s : Shared) (env : Env) (e : Expr) (v : Value) : Prop :=
  ∀ (tk0 : Nat) (Q : Value → Shared → Prop) (E : Value → Shared → Prop), (∀ tk, Q v { s with toks := tk }) → wpAny (model Prg w) A (eval e env) Q E { s with toks := tk0 }
section
variable {w : World} {A : Around} {s : Shared} {H₀ : Heap} {mg mb : Str → Option Value} {env : Env} {k : Nat} {vals : List (Str × Value)} {x : Str} {pos p : Pos} {e l r : Expr} {a b : Nat} {y z : Int} {t : Tok} {v : Value}
theorem EvV.run {Q : Value → Shared → Prop} {E : Value → Shared → Prop} (h : EvV w A s env e v) (q : ∀ tk, Q v { s with toks := tk }) : wpAny (model Prg w) A (eval e env) Q E s := h s.toks Q E q
theorem EvV.loc (F : Frm H₀ env k s.heap vals) (hv : vals.lookup x = some v) (hl : env.kindOf x = some .local := by rfl) (hd : (x == ("__debug__" : Str)) = false := by decide) : EvV w A s env (.Name x pos) v :=
  fun tk0 Q E h => evL (s := { s with toks := tk0 }) F hv (h tk0) hl hd
theorem EvV.cell {c : Addr} (F : Frm H₀ env k s.heap vals) (hv : vals.lookup x = some v) (hl : env.kindOf x = some .cell := by rfl) (hc : env.cells.lookup x = some c := by rfl)
    (h1 : env.locals < c := by show _ < _; omega) (h2 : c ≤ env.locals + k := by show _ ≤ _; omega) (hd : (x == ("__debug__" : Str)) = false := by decide) : EvV w A s env (.Name x pos) v :=
  fun tk0 Q E h => evC (s := { s with toks := tk0 }) F hv (h tk0) hl hc h1 h2 hd
theorem EvV.out {c : Addr} (hk : env.scope.kind = .function) (I : s.heap.IsCell c (some v)) (hl : env.kindOf x = some .cell := by rfl) (hc : env.cells.lookup x = some c := by rfl)
    (hd : (x == ("__debug__" : Str)) = false := by decide) : EvV w A s env (.Name x pos) v :=
  fun tk0 Q E h => evO (s := { s with toks := tk0 }) hk I (h tk0) hl hc hd
/-- the length of a list -/
theorem EvZ.len {lst : Addr} {xs : Array Value} (G : Gx w H₀ mg mb) (B : Bk H₀ s.heap) (hk : env.scope.kind = .function) (hg : env.globals = mainGlobals) (hb : env.builtins = builtinsNs) (h : EvV w A s env e (.ref lst)) (hl : s.heap.IsList lst xs) (hn : xs.size ≤ 1000)
    (hlk : env.kindOf (Str.ofString "len") = some .globalImplicit := by rfl) (he : starEach [e] env = [(false, eval e env)] := by rfl) :
    EvZ w A s env (.Call (.Name (Str.ofString "len") p) [e] [] pos) (xs.size : Int) := fun tk0 Q E q =>
  callBl (s := { s with toks := tk0 }) (x := Str.ofString "len") (by with_unfolding_all rfl) (by boot_fast) G B hk hg hb (items1 (h tk0 _ _ fun tk => Calls.call_len_list hl (by omega) (q _ _)) he) hlk (by decide) (by decide) he rfl
theorem EvZ.lenN {lst : Addr} {ns : List Nat} (G : Gx w H₀ mg mb) (B : Bk H₀ s.heap) (hk : env.scope.kind = .function) (hg : env.globals = mainGlobals) (hb : env.builtins = builtinsNs) (h : EvV w A s env e (.ref lst)) (hl : IsNats s.heap lst ns) (hn : ns.length ≤ 1000)
    (hlk : env.kindOf (Str.ofString "len") = some .globalImplicit := by rfl) (he : starEach [e] env = [(false, eval e env)] := by rfl) :
    EvZ w A s env (.Call (.Name (Str.ofString "len") p) [e] [] pos) ((ns.length : Nat) : Int) := by
  obtain ⟨vs, hl, f⟩ := hl
  have e1 : vs.toArray.size = ns.length := by rw [List.size_toArray]; exact f.length
  rw [← e1]
  exact EvZ.len G B hk hg hb h hl (by rw [e1]; exact hn) hlk he
/-- an item of a list -/
theorem EvV.item {lst : Addr} {xs : Array Value} {i : Nat} (h : EvV w A s env l (.ref lst)) (hl : s.heap.IsList lst xs) (hi : EvZ w A s env r (i : Int)) (hx : xs[i]? = some v) (hn : i < 2 ^ 63)
    (hs : ∀ u, subscripted r false (.ref lst) (.int (i : Int) u) = operate [.ref lst, .int (i : Int) u] (getItem (.ref lst) (.int (i : Int) u)) := by intro _; with_unfolding_all rfl) :
    EvV w A s env (.Subscript l r pos) v := fun tk0 Q E q =>
  Subscript_ (h tk0 _ _ fun tk => hi tk _ _ fun tk1 t => item_listR (s := { s with toks := tk1 }) hl (by omega) (by omega) (by simpa using hx) (q tk1) (hs t))
theorem EvZ.item {lst : Addr} {ns : List Nat} {i n : Nat} (h : EvV w A s env l (.ref lst)) (hl : IsNats s.heap lst ns) (hi : EvZ w A s env r (i : Int)) (hx : ns[i]? = some n) (hn : i < 2 ^ 63)
    (hs : ∀ u, subscripted r false (.ref lst) (.int (i : Int) u) = operate [.ref lst, .int (i : Int) u] (getItem (.ref lst) (.int (i : Int) u)) := by intro _; with_unfolding_all rfl) :
    EvZ w A s env (.Subscript l r pos) (n : Int) := fun tk0 Q E q => by
  obtain ⟨vs, hl, f⟩ := hl
  obtain ⟨v, hv, t, rfl⟩ := f.get hx
  exact EvV.item h hl hi (by simpa using hv) hn hs tk0 Q E fun tk => q tk t
theorem EvV.row {lst : Addr} {rows : List (List Nat)} {i : Nat} {row : List Nat} (h : EvV w A s env l (.ref lst)) (hl : IsRows s.heap lst rows) (hi : EvZ w A s env r (i : Int)) (hx : rows[i]? = some row) (hn : i < 2 ^ 63)
    (hs : ∀ u, subscripted r false (.ref lst) (.int (i : Int) u) = operate [.ref lst, .int (i : Int) u] (getItem (.ref lst) (.int (i : Int) u)) := by intro _; with_unfolding_all rfl) :
    ∃ b, EvV w A s env (.Subscript l r pos) (.ref b) ∧ IsNats s.heap b row := by
  obtain ⟨vs, hl, f⟩ := hl
  obtain ⟨v, hv, b, rfl, hb⟩ := f.get hx
  exact ⟨b, EvV.item h hl hi (by simpa using hv) hn hs, hb⟩
/-- a row's item -/
theorem EvZ.item2 {lst : Addr} {rows : List (List Nat)} {i j n : Nat} {row : List Nat} {r2 : Expr} {pos2 : Pos} (h : EvV w A s env l (.ref lst)) (hl : IsRows s.heap lst rows) (hi : EvZ w A s env r (i : Int)) (hx : rows[i]? = some row) (hn : i < 2 ^ 63)
    (hj : EvZ w A s env r2 (j : Int)) (hy : row[j]? = some n) (hm : j < 2 ^ 63)
    (hs : ∀ lst u, subscripted r false (.ref lst) (.int (i : Int) u) = operate [.ref lst, .int (i : Int) u] (getItem (.ref lst) (.int (i : Int) u)) := by intro _ _; with_unfolding_all rfl)
    (hs2 : ∀ lst u, subscripted r2 false (.ref lst) (.int (j : Int) u) = operate [.ref lst, .int (j : Int) u] (getItem (.ref lst) (.int (j : Int) u)) := by intro _ _; with_unfolding_all rfl) :
    EvZ w A s env (.Subscript (.Subscript l r pos) r2 pos2) (n : Int) := by
  obtain ⟨b, hb, hr⟩ := EvV.row h hl hi hx hn (hs _)
  exact EvZ.item hb hr hj hy hm (hs2 _)
end

section
variable {w : World} {A : Around} {E : Value → Shared → Prop} {s : Shared} {H₀ : Heap} {env : Env} {value : Expr} {pos p : Pos}
/-- a list from a place on -/
theorem sliceV {lst : Addr} {vs : List Value} {low : Expr} {a : Nat} {Q : Value → Shared → Prop} (h : EvV w A s env value (.ref lst)) (hl : s.heap.IsList lst vs.toArray) (ha : a ≤ vs.length) (hn : vs.length ≤ 1000) (ea : EvZ w A s env low (a : Int))
    (q : ∀ b s', s.heap.get? b = none → s'.heap.IsList b (vs.drop a).toArray → Sm No s s' → Q (.ref b) s')
    (ht : ∀ o r, letTemporaryGo value o r = pure () := by intro _ _; rfl) : wpAny (model Prg w) A (eval (.Subscript value (.Slice (some low) none none p) pos) env) Q E s := by
  refine wpAny_Subscript_list_slice (h.run fun tk => ?_) ht
  show wpAny _ A (evalPart (some low) env) _ _ _
  refine wpAny_evalPart_some (ea tk _ _ fun tk1 t => ?_)
  refine wpAny_evalPart_none ⟨lst, _, some (a : Int), none, rfl, hl, by rw [List.size_toArray, sizeLine_eq]; omega, .int _ _, .none, ?_⟩
  rw [slicePick_from _ _ (by rw [List.size_toArray]; exact ha)]
  have e1 : (List.drop a vs.toArray.toList).toArray = (vs.drop a).toArray := by simp
  rw [e1]
  refine q (s.heap.objs.size + 1) _ (Heap.get?_none_of_le (Nat.le_succ _)) ⟨{ cls := .type "list", data := .seq (vs.drop a).toArray }, by rw [← Heap.size_push s.heap { cls := Value.type "slice", data := Data.fields #[Value.int (↑a) t, Value.none, Value.none] }]; exact Heap.get?_push_size _ rfl, rfl, 0, rfl⟩ ⟨fun b o _ e => Heap.get?_push_of_some _ (Heap.get?_push_of_some _ e), rfl, rfl⟩
end
end Mine
end
/-! text D5 -/
section
open PySem PySem.Calls PySem.W PyProof.Rows
namespace Mine
def midN (ns : List Nat) (i : Nat) : Nat := if i < ns.count 0 then 0 else 1
theorem sorted01 : ∀ (L : List Int), L.Pairwise (· ≤ ·) → (∀ z ∈ L, z = 0 ∨ z = 1) → ∀ i, i < L.length → L[i]? = some (if i < L.count 0 then 0 else 1)
  | [], _, _, i, h => absurd h (Nat.not_lt_zero _)
  | z :: r, hp, h01, i, h => by
    rw [List.pairwise_cons] at hp
    rcases h01 z List.mem_cons_self with rfl | rfl
    · rw [List.count_cons_self]
      cases i with
      | zero => simp
      | succ i =>
        rw [List.getElem?_cons_succ, sorted01 r hp.2 (fun y hy => h01 y (List.mem_cons_of_mem _ hy)) i (by simpa using h)]
        simp
    · have c0 : (1 :: r).count (0 : Int) = 0 := by
        rw [List.count_eq_zero]
        intro hm
        rcases List.mem_cons.mp hm with e | e
        · exact absurd e (by decide)
        · exact absurd (hp.1 0 e) (by decide)
      rw [c0]
      simp only [Nat.not_lt_zero, if_false]
      have hmem : (1 :: r)[i] ∈ 1 :: r := List.getElem_mem h
      rw [List.getElem?_eq_getElem h]
      rcases h01 _ hmem with e | e
      · exfalso
        rw [List.count_eq_zero] at c0
        exact c0 (e ▸ hmem)
      · rw [e]
theorem count_ofNat : ∀ (ns : List Nat), (ns.map Int.ofNat).count 0 = ns.count 0
  | [] => rfl
  | 0 :: r => by rw [List.map_cons, List.count_cons_self]; show List.count (Int.ofNat 0) (Int.ofNat 0 :: _) = _; rw [List.count_cons_self]; exact congrArg (· + 1) (count_ofNat r)
  | (n + 1) :: r => by
    rw [List.map_cons, List.count_cons_of_ne (by show Int.ofNat (n + 1) ≠ 0; exact fun h => by cases h), List.count_cons_of_ne (by omega)]
    exact count_ofNat r
theorem mids {ns : List Nat} {ns' : List Int} (h01 : ∀ n ∈ ns, n ≤ 1) (hp : ns'.Perm (ns.map Int.ofNat)) (hs : ns'.Pairwise (· ≤ ·)) {i : Nat} (hi : i < ns.length) : ns'[i]? = some ((midN ns i : Nat) : Int) := by
  have hl : ns'.length = ns.length := by rw [hp.length_eq, List.length_map]
  rw [sorted01 ns' hs (fun z hz => ?_) i (by omega), hp.count_eq, count_ofNat]
  · unfold midN
    split <;> rfl
  · obtain ⟨n, hn, rfl⟩ := List.mem_map.mp (hp.mem_iff.mp hz)
    have := h01 n hn
    have : n = 0 ∨ n = 1 := by omega
    rcases this with rfl | rfl
    · exact .inl rfl
    · exact .inr rfl

section
variable {w : World} {A : Around} {E : Value → Shared → Prop} {s : Shared} {H₀ : Heap} {mg mb : Str → Option Value}
theorem sortedV {a : Addr} {ns : List Nat} {Q : Value → Shared → Prop} (ha : IsNats s.heap a ns) (h64 : ns.length < 64)
    (h : ∀ b s' ns' out, s.heap.get? b = none → s'.heap.IsList b (out : List Value).toArray → IntsAre out ns' → ns'.Perm (ns.map Int.ofNat) → ns'.Pairwise (· ≤ ·) → Sm No s s' → Q (.ref b) s') :
    wpAny (model Prg w) A (call (.builtin "sorted") [.ref a]) Q E s := by
  obtain ⟨vs, hl, f⟩ := ha
  refine sorted_ints hl (ints_of_nats f) (by rw [f.length]; exact h64) fun out ns' a1 a2 a3 => ?_
  obtain ⟨e, he⟩ := sortedAll_at s.heap vs out
  exact h _ _ ns' out.toList (Heap.get?_none_of_le (Nat.le_succ _)) ⟨_, he, rfl, _, rfl⟩ a1 a2 a3 ⟨fun b o _ q => sortedAll_old q, rfl, rfl⟩

theorem high_spec {a : Addr} {ns : List Nat} {Q : Value → Shared → Prop} (G : Gx w H₀ mg mb) (B : Bk H₀ s.heap) (R : Rm A 3) (ha : IsNats s.heap a ns) (h0 : 0 < ns.length) (h64 : ns.length < 64) (h01 : ∀ n ∈ ns, n ≤ 1)
    (h : ∀ v s', IsN v (midN ns (ns.length / 2)) → Sm No s s' → Q v s') : wpAny (model Prg w) A (call (.ref 77) [.ref a]) Q E s := by
  refine call_own (args := ⟨[.ref a], []⟩) (binds := [(Str.ofString "data", .ref a)]) (nms := [Str.ofString "data"]) G B (R.le (by decide : 2 ≤ 3)) (by with_unfolding_all rfl) (by with_unfolding_all rfl) (BindsTo.of_eq rfl) rfl rfl (by decide) (by decide) rfl rfl rfl ?_
  intro s₁ F S B₁ R₁
  generalize Around.deeper A _ = A₁ at R₁ ⊢
  refine wpAny_execs_cons ?_
  refine asF H₀ 0 ?_
  refine callBl (by with_unfolding_all rfl) (by boot_fast) G B₁ rfl rfl rfl (items1 (evL F rfl ?_))
  refine sortedV (ha.keep S.kp.toS) h64 fun b s₂ ns' out nb hb hi hp hs S₂ => ⟨_, F.mono S₂.kp, fun s₃ F₃ S₃ => ?_⟩
  have B₃ : Bk H₀ s₃.heap := (B₁.mono S₂.kp).monoX S₃.k fun b hb => frame_new B hb.1
  have hb3 := islist_keep hb ((F.mono S₂.kp).keepS S₃.k)
  have hlen : out.length = ns.length := by rw [hi.length, hp.length_eq, List.length_map]
  have hsz : out.toArray.size = ns.length := by rw [List.size_toArray, hlen]
  refine wpAny_execs_cons (asZ F₃ (EvZ.len G B₃ rfl rfl rfl (.loc F₃ rfl) hb3 (by omega)) fun s₄ t₄ F₄ S₄ => ?_)
  have hb4 := islist_keep hb3 (F₃.keepS S₄.k)
  rw [hsz] at F₄
  refine wpAny_execs_cons (ifT (.eq (.loc F₄ rfl) (.kz 0)) (fun hb _ => ?_) fun hb tk => ?_)
  · have := of_decide_eq_true hb; omega
  refine wpAny_execs_nil (wpAny_execs_cons (wpAny_Return_some ?_))
  have hm := mids h01 hp hs (show ns.length / 2 < ns.length by omega)
  obtain ⟨t, hx⟩ := hi.get _ _ hm
  refine EvV.run (s := { s₄ with toks := tk }) (EvV.item (.loc F₄ rfl) hb4 (EvZ.cast (EvZ.fdiv (.loc F₄ rfl) (.kz 2) (by decide) (PyProof.noPylong_small (by decide))) (show _ = ((ns.length / 2 : Nat) : Int) by rw [Int.fdiv_eq_ediv_of_nonneg _ (by decide)]; norm_cast)) (by simpa using hx) (by omega)) fun tk => h _ _ ⟨t, rfl⟩ ?_
  exact S.fresh (X := Inter s.heap.objs.size 0) ((S₂.any.trans S₃).trans S₄) fun b hb => Heap.get?_none_of_le hb.1

def lowI (n : Nat) : Nat := if n % 2 = 1 then n / 2 else n / 2 - 1
theorem low_spec {a : Addr} {ns : List Nat} {Q : Value → Shared → Prop} (G : Gx w H₀ mg mb) (B : Bk H₀ s.heap) (R : Rm A 3) (ha : IsNats s.heap a ns) (h0 : 0 < ns.length) (h64 : ns.length < 64) (h01 : ∀ n ∈ ns, n ≤ 1)
    (h : ∀ v s', IsN v (midN ns (lowI ns.length)) → Sm No s s' → Q v s') : wpAny (model Prg w) A (call (.ref 70) [.ref a]) Q E s := by
  refine call_own (args := ⟨[.ref a], []⟩) (binds := [(Str.ofString "data", .ref a)]) (nms := [Str.ofString "data"]) G B (R.le (by decide : 2 ≤ 3)) (by with_unfolding_all rfl) (by with_unfolding_all rfl) (BindsTo.of_eq rfl) rfl rfl (by decide) (by decide) rfl rfl rfl ?_
  intro s₁ F S B₁ R₁
  generalize Around.deeper A _ = A₁ at R₁ ⊢
  refine wpAny_execs_cons ?_
  refine asF H₀ 0 ?_
  refine callBl (by with_unfolding_all rfl) (by boot_fast) G B₁ rfl rfl rfl (items1 (evL F rfl ?_))
  refine sortedV (ha.keep S.kp.toS) h64 fun b s₂ ns' out nb hb hi hp hs S₂ => ⟨_, F.mono S₂.kp, fun s₃ F₃ S₃ => ?_⟩
  have B₃ : Bk H₀ s₃.heap := (B₁.mono S₂.kp).monoX S₃.k fun b hb => frame_new B hb.1
  have hb3 := islist_keep hb ((F.mono S₂.kp).keepS S₃.k)
  have hlen : out.length = ns.length := by rw [hi.length, hp.length_eq, List.length_map]
  have hsz : out.toArray.size = ns.length := by rw [List.size_toArray, hlen]
  refine wpAny_execs_cons (asZ F₃ (EvZ.len G B₃ rfl rfl rfl (.loc F₃ rfl) hb3 (by omega)) fun s₄ t₄ F₄ S₄ => ?_)
  have hb4 := islist_keep hb3 (F₃.keepS S₄.k)
  rw [hsz] at F₄
  refine wpAny_execs_cons (ifT (.eq (.loc F₄ rfl) (.kz 0)) (fun hb _ => ?_) fun hb tk => ?_)
  · have := of_decide_eq_true hb; omega
  have hn2 : ((ns.length : Nat) : Int).fmod 2 = ((ns.length % 2 : Nat) : Int) := by rw [Int.fmod_eq_emod_of_nonneg _ (by decide)]; norm_cast
  have hd2 : ((ns.length : Nat) : Int).fdiv 2 = ((ns.length / 2 : Nat) : Int) := by rw [Int.fdiv_eq_ediv_of_nonneg _ (by decide)]; norm_cast
  refine wpAny_execs_nil (wpAny_execs_cons (ifT (s := { s₄ with toks := tk }) (.eq (EvZ.cast (EvZ.mod (.loc F₄ rfl) (.kz 2) (by decide)) hn2) (.kz 1)) (fun hb tk => ?_) fun hb tk => ?_))
  · have hb := of_decide_eq_true hb
    have hodd : ns.length % 2 = 1 := by omega
    refine wpAny_execs_cons (wpAny_Return_some ?_)
    have hm := mids h01 hp hs (show ns.length / 2 < ns.length by omega)
    obtain ⟨t, hx⟩ := hi.get _ _ hm
    refine EvV.run (s := { s₄ with toks := tk }) (EvV.item (.loc F₄ rfl) hb4 (EvZ.cast (EvZ.fdiv (.loc F₄ rfl) (.kz 2) (by decide) (PyProof.noPylong_small (by decide))) hd2) (by simpa using hx) (by omega)) fun tk => h _ _ ⟨t, ?_⟩ ?_
    · unfold lowI; rw [if_pos hodd]
    exact S.fresh (X := Inter s.heap.objs.size 0) ((S₂.any.trans S₃).trans S₄) fun b hb => Heap.get?_none_of_le hb.1
  · have hb := of_decide_eq_false hb
    have hodd : ¬ ns.length % 2 = 1 := by omega
    refine wpAny_execs_cons (wpAny_Return_some ?_)
    have hm := mids h01 hp hs (show ns.length / 2 - 1 < ns.length by omega)
    obtain ⟨t, hx⟩ := hi.get _ _ hm
    refine EvV.run (s := { s₄ with toks := tk }) (EvV.item (.loc F₄ rfl) hb4 (EvZ.cast (EvZ.sub (EvZ.cast (EvZ.fdiv (.loc F₄ rfl) (.kz 2) (by decide) (PyProof.noPylong_small (by decide))) hd2) (.kz 1)) (show _ = ((ns.length / 2 - 1 : Nat) : Int) by omega)) (by simpa using hx) (by omega)) fun tk => h _ _ ⟨t, ?_⟩ ?_
    · unfold lowI; rw [if_neg hodd]
    exact S.fresh (X := Inter s.heap.objs.size 0) ((S₂.any.trans S₃).trans S₄) fun b hb => Heap.get?_none_of_le hb.1
end
end Mine
end
/-! text P1 -/
section
open PySem PySem.Float64
namespace Mine
/-- the unit of the floats here: a thousandth of a millionth, in last places -/
@[irreducible] def PW : Nat := 2 ^ 1044
theorem PW_pos : 0 < PW := by unfold PW; exact Nat.two_pow_pos _
theorem PW_1074 : 2 ^ 1074 = 2 ^ 30 * PW := by unfold PW; rw [← Nat.pow_add]
theorem PW_big {c : Nat} (h : c < 2 ^ 53) : 2 * (c * PW) < (2 ^ 54 - 1) * 2 ^ 2045 := by
  have h1 : 2 * (c * PW) ≤ 2 ^ 54 * 2 ^ 1044 := by
    have : PW = 2 ^ 1044 := by unfold PW; rfl
    rw [this, ← Nat.mul_assoc]
    exact Nat.mul_le_mul_right _ (by omega)
  have h2 : 2 ^ 54 * 2 ^ 1044 < (2 ^ 54 - 1) * 2 ^ 2045 := by
    rw [← Nat.pow_add]
    calc 2 ^ (54 + 1044) < 2 ^ 2045 := Nat.pow_lt_pow_right (by decide) (by decide)
      _ ≤ (2 ^ 54 - 1) * 2 ^ 2045 := Nat.le_mul_of_pos_left _ (by decide)
  exact Nat.lt_of_le_of_lt h1 h2
theorem rep {c : Nat} (h : c < 2 ^ 53) : ∃ t, t < infMag ∧ V t = c * PW := by
  by_cases hc : c = 0
  · subst hc; exact ⟨0, by decide, by rw [V_zero, Nat.zero_mul]⟩
  have hl : c.log2 < 53 := (Nat.log2_lt hc).mpr h
  have h1 : 2 ^ c.log2 ≤ c := Nat.log2_self_le hc
  have h2 : c < 2 ^ (c.log2 + 1) := Nat.lt_log2_self
  generalize c.log2 = l at *
  refine ⟨(1044 - (52 - l)) * 2 ^ 52 + c * 2 ^ (52 - l), ?_, ?_⟩
  · have : c * 2 ^ (52 - l) < 2 ^ 53 := by
      calc c * 2 ^ (52 - l) < 2 ^ (l + 1) * 2 ^ (52 - l) := Nat.mul_lt_mul_of_pos_right h2 (Nat.two_pow_pos _)
        _ = 2 ^ 53 := by rw [← Nat.pow_add]; congr 1; omega
    have hI : infMag = 2047 * 2 ^ 52 := rfl
    rw [hI]
    omega
  · rw [V_at]
    · have e : PW = 2 ^ 1044 := by unfold PW; rfl
      rw [e, Nat.mul_assoc, ← Nat.pow_add]
      congr 2; omega
    · have : c * 2 ^ (52 - l) < 2 ^ 53 := by
        calc c * 2 ^ (52 - l) < 2 ^ (l + 1) * 2 ^ (52 - l) := Nat.mul_lt_mul_of_pos_right h2 (Nat.two_pow_pos _)
          _ = 2 ^ 53 := by rw [← Nat.pow_add]; congr 1; omega
      omega
    · left
      calc 2 ^ 52 = 2 ^ l * 2 ^ (52 - l) := by rw [← Nat.pow_add]; congr 1; omega
        _ ≤ c * 2 ^ (52 - l) := Nat.mul_le_mul_right _ h1

/-- a float that stands for z over 2^30 -/
def FV (x : UInt64) (z : Int) : Prop := ∃ sg t, x = pack sg t ∧ t < infMag ∧ V t = z.natAbs * PW ∧ (z < 0 → sg = true) ∧ (0 < z → sg = false)
theorem FV.right {r : UInt64} {ng : Bool} {W D : Nat} {z : Int} (h : Right r ng W D) (hD : 0 < D) (hW : W = D * (z.natAbs * PW)) (hz : z.natAbs < 2 ^ 53) (h1 : z < 0 → ng = true) (h2 : 0 < z → ng = false) : FV r z := by
  obtain ⟨t, e, hle, hov, hn⟩ := h
  have hnov : t < infMag := by
    refine Nat.lt_of_le_of_ne hle fun q => ?_
    have := hov.mp q
    rw [hW] at this
    have k : 2 * (D * (z.natAbs * PW)) = D * (2 * (z.natAbs * PW)) := by rw [Nat.mul_left_comm]
    rw [k] at this
    have := Nat.le_of_mul_le_mul_left this hD
    exact absurd this (Nat.not_le.mpr (PW_big hz))
  refine ⟨ng, t, e, hnov, ?_, h1, h2⟩
  obtain ⟨t0, h0, hV⟩ := rep hz
  have hd := (hn hnov t0).1
  rw [hV, ← hW] at hd
  have z0 : dist W W = 0 := by unfold dist; omega
  rw [z0] at hd
  have : D * V t = W := by unfold dist at hd; omega
  rw [hW] at this
  exact Nat.eq_of_mul_eq_mul_left hD this
theorem FV.dec {x : UInt64} {z : Int} (h : FV x z) : ∃ a m e, decode x = .fin a m e ∧ val x = z * (PW : Int) ∧ (z < 0 → a = true) ∧ (0 < z → a = false) ∧ (val x).natAbs = z.natAbs * PW := by
  obtain ⟨sg, t, rfl, ht, hV, h1, h2⟩ := h
  obtain ⟨m, e, hd, hm⟩ := decode_pack sg ht
  have hv : val (pack sg t) = sgn sg (V t) := val_pack sg ht
  refine ⟨sg, m, e, hd, ?_, h1, h2, ?_⟩
  · rw [hv, hV]
    unfold sgn
    rcases Int.lt_trichotomy z 0 with hz | hz | hz
    · rw [h1 hz]; simp only [if_true]
      have e1 : (z.natAbs : Int) = -z := by omega
      rw [Int.natCast_mul, e1, Int.neg_mul, Int.neg_neg]
    · subst hz; simp
    · rw [h2 hz]
      simp only [Bool.false_eq_true, if_false]
      have e1 : (z.natAbs : Int) = z := by omega
      rw [Int.natCast_mul, e1]
  · rw [hv, sgn_natAbs, hV]
theorem FV.zero (b : Bool) : FV (Float64.zero b) 0 := ⟨b, 0, rfl, by decide, by rw [V_zero]; simp, fun h => absurd h (by decide), fun h => absurd h (by decide)⟩
theorem pw_ne {z : Int} (h : z ≠ 0) : z * (PW : Int) ≠ 0 := Int.mul_ne_zero h (by have := PW_pos; omega)
theorem pw_lt {z : Int} : z * (PW : Int) < 0 ↔ z < 0 := by
  have hp : (0 : Int) < PW := by have := PW_pos; omega
  constructor
  · intro h
    rcases Int.lt_or_le z 0 with q | q
    · exact q
    · exact absurd h (Int.not_lt.mpr (Int.mul_nonneg q (Int.le_of_lt hp)))
  · intro h; exact Int.mul_neg_of_neg_of_pos h hp
theorem FV.sum {x y : UInt64} {a b : Int} {r : UInt64} {s : Bool} (hs : (a + b).natAbs < 2 ^ 53) (e : val x + val y = (a + b) * (PW : Int))
    (h : (val x + val y = 0 → r = Float64.zero s) ∧ (val x + val y ≠ 0 → Right r (decide (val x + val y < 0)) (val x + val y).natAbs 1)) : FV r (a + b) := by
  by_cases hz : a + b = 0
  · rw [h.1 (by rw [e, hz, Int.zero_mul]), hz]; exact FV.zero _
  · have hr := h.2 (by rw [e]; exact pw_ne hz)
    rw [e] at hr
    refine FV.right hr (by decide) ?_ hs (fun q => decide_eq_true (pw_lt.mpr q)) fun q => decide_eq_false fun k => ?_
    · rw [Int.natAbs_mul, Nat.one_mul, Int.natAbs_natCast]
    · have := pw_lt.mp k; omega
theorem FV.add {x y : UInt64} {a b : Int} (hx : FV x a) (hy : FV y b) (hs : (a + b).natAbs < 2 ^ 53) : FV (Float64.add x y) (a + b) := by
  obtain ⟨sa, m, e, dx, vx, _⟩ := hx.dec
  obtain ⟨sb, k, f, dy, vy, _⟩ := hy.dec
  exact FV.sum hs (by rw [vx, vy, Int.add_mul]) (add_right dx dy)
theorem FV.sub {x y : UInt64} {a b : Int} (hx : FV x a) (hy : FV y b) (hs : (a - b).natAbs < 2 ^ 53) : FV (Float64.sub x y) (a - b) := by
  obtain ⟨sa, m, e, dx, vx, _⟩ := hx.dec
  obtain ⟨sb, k, f, dy, vy, _⟩ := hy.dec
  have hn := neg_decode dy
  have := add_right dx hn
  rw [Int.sub_eq_add_neg] at hs ⊢
  unfold Float64.sub
  exact FV.sum (x := x) (y := neg y) (s := sa && !sb) hs (by rw [neg_val dy, vx, vy, Int.add_mul, Int.neg_mul]) this
theorem FV.mul {x y : UInt64} {a b c : Int} (hx : FV x a) (hy : FV y b) (hc : a * b = c * 2 ^ 30) (hs : c.natAbs < 2 ^ 53) : FV (Float64.mul x y) c := by
  obtain ⟨sa, m, e, dx, vx, a1, a2, nx⟩ := hx.dec
  obtain ⟨sb, k, f, dy, vy, b1, b2, ny⟩ := hy.dec
  refine FV.right (mul_right dx dy) (Nat.two_pow_pos _) ?_ hs ?_ ?_
  · rw [nx, ny, PW_1074]
    have h := congrArg Int.natAbs hc
    rw [Int.natAbs_mul, Int.natAbs_mul] at h
    have h' : a.natAbs * b.natAbs = c.natAbs * 2 ^ 30 := h
    calc a.natAbs * PW * (b.natAbs * PW) = (a.natAbs * b.natAbs) * (PW * PW) := by simp only [Nat.mul_comm, Nat.mul_left_comm, Nat.mul_assoc]
      _ = (c.natAbs * 2 ^ 30) * (PW * PW) := by rw [h']
      _ = 2 ^ 30 * PW * (c.natAbs * PW) := by simp only [Nat.mul_comm, Nat.mul_left_comm, Nat.mul_assoc]
  · intro h
    have hneg : a * b < 0 := by rw [hc]; omega
    rcases Int.lt_trichotomy a 0 with p | p | p <;> rcases Int.lt_trichotomy b 0 with q | q | q
    · have := Int.mul_pos_of_neg_of_neg p q; omega
    · subst q; simp at hneg
    · rw [a1 p, b2 q]; rfl
    · subst p; simp at hneg
    · subst p; simp at hneg
    · subst p; simp at hneg
    · rw [a2 p, b1 q]; rfl
    · subst q; simp at hneg
    · have := Int.mul_pos p q; omega
  · intro h
    have hpos : 0 < a * b := by rw [hc]; omega
    rcases Int.lt_trichotomy a 0 with p | p | p <;> rcases Int.lt_trichotomy b 0 with q | q | q
    · rw [a1 p, b1 q]; rfl
    · subst q; simp at hpos
    · have := Int.mul_neg_of_neg_of_pos p q; omega
    · subst p; simp at hpos
    · subst p; simp at hpos
    · subst p; simp at hpos
    · have := Int.mul_neg_of_pos_of_neg p q; omega
    · subst q; simp at hpos
    · rw [a2 p, b2 q]; rfl
theorem FV.ofFrac {sg : Bool} {n d : Nat} {z : Int} (hd : 0 < d) (h : n * 2 ^ 30 = z.natAbs * d) (hz : z.natAbs < 2 ^ 53) (h1 : z < 0 → sg = true) (h2 : 0 < z → sg = false) : FV (Float64.ofFrac sg n d) z := by
  refine FV.right (ofFrac_right (W := z.natAbs * PW) (D := 1) hd ?_ (by decide)) (by decide) (by rw [Nat.one_mul]) hz h1 h2
  rw [PW_1074, Nat.mul_one, ← Nat.mul_assoc, h]
  simp only [Nat.mul_comm, Nat.mul_left_comm, Nat.mul_assoc]
theorem FV.ofInt {i : Int} (hi : i.natAbs < 2 ^ 23) : FV (Float64.ofInt i) (i * 2 ^ 30) := by
  unfold Float64.ofInt
  refine FV.ofFrac (d := 1) Nat.one_pos ?_ ?_ ?_ ?_
  · omega
  · omega
  · intro h; exact decide_eq_true (by omega)
  · intro h; exact decide_eq_false (by omega)
theorem FV.div {x y : UInt64} {a b c : Int} (hx : FV x a) (hy : FV y b) (hb : 0 < b) (hc : a * 2 ^ 30 = c * b) (hs : c.natAbs < 2 ^ 53) : FV (Float64.div x y) c := by
  obtain ⟨sa, m, e, dx, vx, a1, a2, nx⟩ := hx.dec
  obtain ⟨sb, k, f, dy, vy, b1, b2, ny⟩ := hy.dec
  have hk : k ≠ 0 := fun h => by
    have := val_natAbs dy
    rw [ny, h, Nat.zero_mul] at this
    rcases Nat.mul_eq_zero.mp this with q | q
    · omega
    · have := PW_pos; omega
  have hb' : sb = false := b2 hb
  subst hb'
  have sa' : (sa != false) = sa := by cases sa <;> rfl
  have r := div_right dx dy hk
  rw [sa'] at r
  refine FV.right r (by rw [ny]; exact Nat.mul_pos (by omega) PW_pos) ?_ hs (fun h => a1 ?_) fun h => a2 ?_
  · rw [nx, ny, PW_1074]
    have h := congrArg Int.natAbs hc
    rw [Int.natAbs_mul, Int.natAbs_mul] at h
    have h' : a.natAbs * 2 ^ 30 = c.natAbs * b.natAbs := h
    calc a.natAbs * PW * (2 ^ 30 * PW) = (a.natAbs * 2 ^ 30) * (PW * PW) := by simp only [Nat.mul_comm, Nat.mul_left_comm, Nat.mul_assoc]
      _ = (c.natAbs * b.natAbs) * (PW * PW) := by rw [h']
      _ = b.natAbs * PW * (c.natAbs * PW) := by simp only [Nat.mul_comm, Nat.mul_left_comm, Nat.mul_assoc]
  · have := Int.mul_neg_of_neg_of_pos h hb; omega
  · have := Int.mul_pos h hb; omega
theorem FV.finite {x : UInt64} {z : Int} (h : FV x z) : isFinite x = true := by
  obtain ⟨a, m, e, d, _⟩ := h.dec
  unfold isFinite; rw [d]
theorem FV.notInf {x : UInt64} {z : Int} (h : FV x z) : isInf x = false := by
  obtain ⟨a, m, e, d, _⟩ := h.dec
  unfold isInf; rw [d]
theorem FV.notNaN {x : UInt64} {z : Int} (h : FV x z) : isNaN x = false := by
  obtain ⟨a, m, e, d, _⟩ := h.dec
  unfold isNaN; rw [d]
theorem FV.isZero {x : UInt64} {z : Int} (h : FV x z) : isZero x = decide (z = 0) := by
  obtain ⟨a, m, e, d, v, _, _, n⟩ := h.dec
  unfold Float64.isZero
  rw [d]
  have hn := val_natAbs d
  rw [n] at hn
  have hP := PW_pos
  cases m with
  | zero =>
    rw [Nat.zero_mul] at hn
    have : z.natAbs = 0 := by
      rcases Nat.mul_eq_zero.mp hn with q | q
      · exact q
      · omega
    simp; omega
  | succ m =>
    have : z ≠ 0 := fun q => by
      subst q
      simp only [Int.natAbs_zero, Nat.zero_mul] at hn
      have := Nat.mul_pos (Nat.succ_pos m) (Nat.two_pow_pos (e + 1074).toNat)
      rw [← hn] at this
      exact absurd this (by decide)
    simp [this]
theorem FV.cmp {x y : UInt64} {a b : Int} (hx : FV x a) (hy : FV y b) : cmp x y = some (compare a b) := by
  obtain ⟨sa, m, e, dx, vx, _⟩ := hx.dec
  obtain ⟨sb, k, f, dy, vy, _⟩ := hy.dec
  rw [cmp_right dx dy, vx, vy]
  congr 1
  have hp : (0 : Int) < PW := by have := PW_pos; omega
  simp only [compare, compareOfLessAndEq]
  by_cases h1 : a < b
  · rw [if_pos h1, if_pos (Int.mul_lt_mul_of_pos_right h1 hp)]
  · rw [if_neg h1, if_neg (fun h => h1 (Int.lt_of_mul_lt_mul_right h (Int.le_of_lt hp)))]
    by_cases h2 : a = b
    · subst h2; simp
    · rw [if_neg h2, if_neg (fun h => h2 (Int.eq_of_mul_eq_mul_right (Int.ne_of_gt hp) h))]
theorem FV.uniq {x y : UInt64} {z : Int} (hx : FV x z) (hy : FV y z) (hz : z ≠ 0) : x = y := by
  obtain ⟨s, t, rfl, _, hV, h1, h2⟩ := hx
  obtain ⟨s', t', rfl, _, hV', h1', h2'⟩ := hy
  have e : t = t' := by
    rcases Nat.lt_trichotomy t t' with q | q | q
    · have := V_lt q; omega
    · exact q
    · have := V_lt q; omega
  subst e
  have : s = s' := by
    rcases Int.lt_or_gt_of_ne hz with q | q
    · rw [h1 q, h1' q]
    · rw [h2 q, h2' q]
  rw [this]
/-- the low half of an exact product is nothing -/
theorem FV.fma0 {x y : UInt64} {a b c : Int} (hx : FV x a) (hy : FV y b) (hc : a * b = c * 2 ^ 30) (hs : c.natAbs < 2 ^ 53) : FV (Float64.fma x y (Float64.neg (Float64.mul x y))) 0 := by
  obtain ⟨sa, m, e, dx, vx, _⟩ := hx.dec
  obtain ⟨sb, k, f, dy, vy, _⟩ := hy.dec
  obtain ⟨sc, n, g, dz, vz, _⟩ := (FV.mul hx hy hc hs).dec
  have he := decode_ge dx
  have hf := decode_ge dy
  have hg := decode_ge dz
  have dn := neg_decode dz
  have key : sgn (sa != sb) (m * k * 2 ^ (e + f - min (e + f) g).toNat) + sgn (!sc) (n * 2 ^ (g - min (e + f) g).toNat) = 0 := by
    have hK : (0 : Int) < ((2 ^ (min (e + f) g + 2148).toNat : Nat) : Int) := Int.ofNat_lt.mpr (Nat.two_pow_pos _)
    refine Int.eq_of_mul_eq_mul_right (Int.ne_of_gt hK) ?_
    rw [Int.zero_mul, Int.add_mul, ← sgn_mul, ← sgn_mul, Nat.mul_assoc, Nat.mul_assoc n, ← Nat.pow_add, ← Nat.pow_add]
    have e1 : (e + f - min (e + f) g).toNat + (min (e + f) g + 2148).toNat = (e + 1074).toNat + (f + 1074).toNat := by omega
    have e2 : (g - min (e + f) g).toNat + (min (e + f) g + 2148).toNat = (g + 1074).toNat + 1074 := by omega
    rw [e1, e2, sgn_not, Nat.pow_add, Nat.pow_add, ← Nat.mul_assoc n, sgn_mul sc, ← val_eq dz]
    have e3 : sgn (sa != sb) (m * k * (2 ^ (e + 1074).toNat * 2 ^ (f + 1074).toNat)) = val x * val y := by
      rw [val_eq dx, val_eq dy]
      have e4 : m * k * (2 ^ (e + 1074).toNat * 2 ^ (f + 1074).toNat) = (m * 2 ^ (e + 1074).toNat) * (k * 2 ^ (f + 1074).toNat) := by simp only [Nat.mul_comm, Nat.mul_left_comm, Nat.mul_assoc]
      rw [e4]
      generalize m * 2 ^ (e + 1074).toNat = p
      generalize k * 2 ^ (f + 1074).toNat = q
      unfold sgn
      cases sa <;> cases sb <;> simp only [Bool.bne_true, Bool.bne_false, Bool.not_true, Bool.not_false, if_true, if_false, Bool.false_eq_true, Int.natCast_mul, Int.neg_mul, Int.mul_neg, Int.neg_neg]
    rw [e3, vx, vy, vz, PW_1074]
    have e5 : a * (PW : Int) * (b * (PW : Int)) = (a * b) * ((PW : Int) * PW) := by simp only [Int.mul_comm, Int.mul_left_comm, Int.mul_assoc]
    rw [e5, hc, Int.natCast_mul]
    have e6 : c * (PW : Int) * (((2 ^ 30 : Nat) : Int) * (PW : Int)) = c * 2 ^ 30 * ((PW : Int) * PW) := by
      have : ((2 ^ 30 : Nat) : Int) = 2 ^ 30 := by norm_cast
      rw [this]
      simp only [Int.mul_comm, Int.mul_left_comm, Int.mul_assoc]
    rw [e6]
    omega
  unfold Float64.fma
  rw [dx, dy, dn]
  simp only [align]
  simp only [key, beq_self_eq_true, if_true]
  exact FV.zero _
end Mine
end
/-! text D6 -/
section
open PySem PySem.Calls PySem.W PyProof.Rows
namespace Mine
theorem kind_fsum : builtinKind "math.fsum" = none := by decide +kernel
theorem plain_fsum : plainId "math.fsum" = true := by decide +kernel
theorem entry_fsum : entryFor table "math.fsum" = some Builtin.«math.fsum» := entryFor_of_tree (by kernel_rfl)
theorem args_fsum1 (a : Value) : argsOk "math.fsum" ⟨[a], []⟩ := by unfold argsOk; kernel_rfl
theorem plain_fsum_loop : plainId "math.fsum.loop" = true := by decide +kernel
theorem entry_fsum_loop : entryFor table "math.fsum.loop" = some Builtin.«math.fsum.loop» := entryFor_of_tree (by kernel_rfl)

/-- the partial sums after c ones -/
def Ps (ps : List UInt64) (c : Nat) : Prop := (c = 0 ∧ ps = []) ∨ ∃ f, ps = [f] ∧ c ≠ 0 ∧ FV f ((c : Int) * 2 ^ 30)
theorem not_over {n : Nat} (h : n ≤ 1) : ¬ PySem.Flt.Over (n : Int) := by
  intro o
  have e : n = 0 ∨ n = 1 := by omega
  rcases e with rfl | rfl <;> exact absurd o (by unfold PySem.Flt.Over; decide +kernel)
theorem Ps.add {ps : List UInt64} {c n : Nat} (h : Ps ps c) (hn : n ≤ 1) (hc : c < 1000) :
    Float64.isFinite (Float64.fsumAdd ps (Float64.ofInt (n : Int))).2 = true ∧
    Ps (if Float64.isZero (Float64.fsumAdd ps (Float64.ofInt (n : Int))).2 then (Float64.fsumAdd ps (Float64.ofInt (n : Int))).1 else (Float64.fsumAdd ps (Float64.ofInt (n : Int))).1 ++ [(Float64.fsumAdd ps (Float64.ofInt (n : Int))).2]) (c + n) := by
  have hx : FV (Float64.ofInt (n : Int)) ((n : Int) * 2 ^ 30) := FV.ofInt (by omega)
  generalize Float64.ofInt (n : Int) = x at *
  rcases h with ⟨rfl, rfl⟩ | ⟨f, rfl, hc0, hf⟩
  · show Float64.isFinite x = true ∧ Ps (if Float64.isZero x = true then [] else [] ++ [x]) (0 + n)
    refine ⟨hx.finite, ?_⟩
    rw [hx.isZero]
    have e : n = 0 ∨ n = 1 := by omega
    rcases e with rfl | rfl
    · exact .inl ⟨rfl, rfl⟩
    · exact .inr ⟨x, rfl, by decide, hx⟩
  · have two : ∀ u v a b, a.natAbs < 2 ^ 45 → b.natAbs < 2 ^ 45 → FV u a → FV v b → a + b = ((c + n : Nat) : Int) * 2 ^ 30 → Float64.isFinite (Float64.add u v) = true ∧ Float64.isZero (Float64.sub v (Float64.sub (Float64.add u v) u)) = true ∧ FV (Float64.add u v) (((c + n : Nat) : Int) * 2 ^ 30) ∧ Float64.isZero (Float64.add u v) = false := by
      intro u v a b ha hb hu hv he
      have hs := FV.add hu hv (by rw [he]; omega)
      have hd := FV.sub hs hu (by omega)
      have hl := FV.sub hv hd (by omega)
      refine ⟨hs.finite, ?_, he ▸ hs, ?_⟩
      · rw [hl.isZero]; exact decide_eq_true (by omega)
      · rw [hs.isZero]; exact decide_eq_false (by rw [he]; omega)
    have cases2 : Float64.fsumAdd [f] x = (if Float64.isZero (Float64.sub (if Float64.lt (Float64.abs x) (Float64.abs f) then x else f) (Float64.sub (Float64.add (if Float64.lt (Float64.abs x) (Float64.abs f) then f else x) (if Float64.lt (Float64.abs x) (Float64.abs f) then x else f)) (if Float64.lt (Float64.abs x) (Float64.abs f) then f else x))) then [] else [Float64.sub (if Float64.lt (Float64.abs x) (Float64.abs f) then x else f) (Float64.sub (Float64.add (if Float64.lt (Float64.abs x) (Float64.abs f) then f else x) (if Float64.lt (Float64.abs x) (Float64.abs f) then x else f)) (if Float64.lt (Float64.abs x) (Float64.abs f) then f else x))], Float64.add (if Float64.lt (Float64.abs x) (Float64.abs f) then f else x) (if Float64.lt (Float64.abs x) (Float64.abs f) then x else f)) := by
      unfold Float64.fsumAdd
      cases Float64.lt (Float64.abs x) (Float64.abs f) <;> rfl
    rw [cases2]
    have fin : ∀ u v a b, a.natAbs < 2 ^ 45 → b.natAbs < 2 ^ 45 → FV u a → FV v b → a + b = ((c + n : Nat) : Int) * 2 ^ 30 → Float64.isFinite ((if Float64.isZero (Float64.sub v (Float64.sub (Float64.add u v) u)) then [] else [Float64.sub v (Float64.sub (Float64.add u v) u)] : List UInt64), Float64.add u v).2 = true ∧
        Ps (if Float64.isZero ((if Float64.isZero (Float64.sub v (Float64.sub (Float64.add u v) u)) then [] else [Float64.sub v (Float64.sub (Float64.add u v) u)] : List UInt64), Float64.add u v).2 then ((if Float64.isZero (Float64.sub v (Float64.sub (Float64.add u v) u)) then [] else [Float64.sub v (Float64.sub (Float64.add u v) u)] : List UInt64), Float64.add u v).1 else ((if Float64.isZero (Float64.sub v (Float64.sub (Float64.add u v) u)) then [] else [Float64.sub v (Float64.sub (Float64.add u v) u)] : List UInt64), Float64.add u v).1 ++ [((if Float64.isZero (Float64.sub v (Float64.sub (Float64.add u v) u)) then [] else [Float64.sub v (Float64.sub (Float64.add u v) u)] : List UInt64), Float64.add u v).2]) (c + n) := by
      intro u v a b ha hb hu hv he
      obtain ⟨h1, h2, h3, h4⟩ := two u v a b ha hb hu hv he
      simp only [h2, h4, if_true, Bool.false_eq_true, if_false]
      exact ⟨h1, .inr ⟨_, rfl, by omega, h3⟩⟩
    cases Float64.lt (Float64.abs x) (Float64.abs f)
    · exact fin x f _ _ (by omega) (by omega) hx hf (by rw [Int.natCast_add]; omega)
    · exact fin f x _ _ (by omega) (by omega) hf hx (by rw [Int.natCast_add]; omega)
theorem Ps.end {ps : List UInt64} {c : Nat} (h : Ps ps c) : FV (Float64.fsumEnd ps) ((c : Int) * 2 ^ 30) := by
  rcases h with ⟨rfl, rfl⟩ | ⟨f, rfl, hc0, hf⟩
  · exact FV.zero false
  · exact hf

section
variable {w : World} {A : Around} {E : Value → Shared → Prop} {s : Shared} {R : Result → Shared → Prop}
theorem pk_back (ps : List UInt64) : (((ps.map fun x => rawInt x.toNat).toArray).toList.map fun | .int i _ => i.toNat.toUInt64 | _ => 0) = ps := by
  simp only [List.map_map]
  conv => rhs; rw [← List.map_id ps]
  refine List.map_congr_left fun x _ => ?_
  simp [rawInt]

theorem fsum_loop {vs : List Value} {ns : List Nat} (hh : A.handled = none) (f : F2 IsN vs ns) (h01 : ∀ n ∈ ns, n ≤ 1) (hlen : ns.length ≤ 900) (I a : Addr) (hne : a ≠ I) :
    ∀ (k i : Nat) (s : Shared) (p q : Addr) (ps : List UInt64), ns.length - i = k → i ≤ ns.length → s.heap.IsListIter I a i → s.heap.IsList a vs.toArray → s.heap.IsTuple p (ps.map fun x => rawInt x.toNat).toArray → s.heap.IsTuple q #[rawInt (Float64.zero false).toNat, rawInt (Float64.zero false).toNat] → Ps ps (ns.take i).sum →
    (∀ s' x t, FV x ((ns.sum : Int) * 2 ^ 30) → Sm (· = I) s s' → R (.ok (.ret (.float x t))) s') → codeAny (model Prg w) A (.builtin "math.fsum.loop" ⟨[.ref I, .ref p, .ref q], []⟩) R s := by
  have W : Walks Prg w A.in1 I [I, a] [I] vs.toArray.size (fun i v => vs.toArray[i]? = some v) (fun i h => h.IsListIter I a i ∧ h.IsList a vs.toArray) := Walks.list (A := A.in1) hh I a hne vs.toArray
  have hsz : vs.toArray.size = ns.length := by rw [List.size_toArray]; exact f.length
  have notI : ∀ {h : Heap} {p : Addr} {xs : Array Value} {j}, h.IsTuple p xs → h.IsListIter I a j → p ∉ [I] := fun ht hi hm => by
    rw [List.mem_singleton] at hm; subst hm
    obtain ⟨o, e, _, n, d⟩ := ht
    obtain ⟨o', e', _, d'⟩ := hi
    rw [e] at e'; cases e'; rw [d] at d'; cases d'
  intro k
  induction k with
  | zero =>
    intro i s p q ps hk hi hit hl hp hq hps hR
    obtain rfl : i = ns.length := by omega
    rw [List.take_length] at hps
    refine codeAny_builtin entry_fsum_loop ?_
    rw [Around.under_plainId plain_fsum_loop _]
    obtain ⟨op, ep, _, np, dp⟩ := hp
    obtain ⟨oq, eq, _, nq, dq⟩ := hq
    show wpAny _ A.in1 (((seqItems? (.ref p)) >>= fun r => pure (((r.getD #[]).toList.map fun | .int i _ => i.toNat.toUInt64 | _ => 0))) >>= _) _ _ s
    refine wpAny_bind (wpAny_bind (wpAny_seqItems ep dp (wpAny_pure ?_)))
    rw [show ((some ((ps.map fun x => rawInt x.toNat).toArray)).getD #[]) = (ps.map fun x => rawInt x.toNat).toArray from rfl, pk_back]
    show wpAny _ A.in1 (((seqItems? (.ref q)) >>= fun r => pure (((r.getD #[]).toList.map fun | .int i _ => i.toNat.toUInt64 | _ => 0))) >>= _) _ _ s
    refine wpAny_bind (wpAny_bind (wpAny_seqItems eq dq (wpAny_pure ?_)))
    show wpAny _ A.in1 (pyNext (.ref I) >>= _) _ _ s
    refine wpAny_bind (W.done s _ _ ⟨hsz ▸ hit, hl⟩ fun h' tk hk' => ?_)
    dsimp only
    split
    · rename_i h
      simp only [rawInt, Int.toNat_natCast, UInt64.ofNat_toNat, Nat.toUInt64_eq] at h
      rw [(FV.zero false).isZero] at h
      exact absurd h (by decide)
    show wpAny _ A.in1 (mkFloat (Float64.fsumEnd ps) >>= _) _ _ _
    refine wpAny_bind (fun _ _ _ => fun _ _ _ => ?_)
    exact hR _ _ _ (Ps.end hps) ⟨fun b o nb e => hk' b o (by simpa using nb) e, rfl, rfl⟩
  | succ k ih =>
    intro i s p q ps hk hi hit hl hp hq hps hR
    have hlt : i < ns.length := by omega
    refine codeAny_builtin entry_fsum_loop ?_
    rw [Around.under_plainId plain_fsum_loop _]
    obtain ⟨op, ep, _, np, dp⟩ := id hp
    obtain ⟨oq, eq, _, nq, dq⟩ := id hq
    show wpAny _ A.in1 (((seqItems? (.ref p)) >>= fun r => pure (((r.getD #[]).toList.map fun | .int i _ => i.toNat.toUInt64 | _ => 0))) >>= _) _ _ s
    refine wpAny_bind (wpAny_bind (wpAny_seqItems ep dp (wpAny_pure ?_)))
    rw [show ((some ((ps.map fun x => rawInt x.toNat).toArray)).getD #[]) = (ps.map fun x => rawInt x.toNat).toArray from rfl, pk_back]
    show wpAny _ A.in1 (((seqItems? (.ref q)) >>= fun r => pure (((r.getD #[]).toList.map fun | .int i _ => i.toNat.toUInt64 | _ => 0))) >>= _) _ _ s
    refine wpAny_bind (wpAny_bind (wpAny_seqItems eq dq (wpAny_pure ?_)))
    show wpAny _ A.in1 (pyNext (.ref I) >>= _) _ _ s
    refine wpAny_bind (W.item i s _ _ (by omega) ⟨hit, hl⟩ fun v h' tk hv hst' hk' => ?_)
    obtain ⟨n, hn, t, rfl⟩ := f.get' (by simpa using hv)
    have hn1 : n ≤ 1 := h01 n (List.mem_of_getElem? hn)
    show wpAny _ A.in1 (holding [.int (n : Int) t] (Builtin.Math.realArg (.int (n : Int) t)) >>= _) _ _ _
    refine wpAny_bind (wpAny_holding (PySem.Flt.realArg_int hh (fun o => absurd o (not_over hn1)) fun _ => ?_))
    have hle : (ns.take i).sum < 1000 := by
      have : ∀ (l : List Nat), (∀ n ∈ l, n ≤ 1) → l.sum ≤ l.length := fun l => by
        induction l with
        | nil => intro _; simp
        | cons x r ih => intro h; have := h x List.mem_cons_self; have := ih fun y hy => h y (List.mem_cons_of_mem _ hy); simp; omega
      have := this (ns.take i) fun n hn => h01 n (List.mem_of_mem_take hn)
      rw [List.length_take] at this
      omega
    obtain ⟨hfin, hps'⟩ := hps.add hn1 hle
    show wpAny _ A.in1 (if Float64.isFinite (Float64.fsumAdd ps (Float64.ofInt (n : Int))).2 = true then _ else _) _ _ _
    rw [if_pos hfin]
    generalize hpp : (if Float64.isZero (Float64.fsumAdd ps (Float64.ofInt (n : Int))).2 = true then (Float64.fsumAdd ps (Float64.ofInt (n : Int))).1 else (Float64.fsumAdd ps (Float64.ofInt (n : Int))).1 ++ [(Float64.fsumAdd ps (Float64.ofInt (n : Int))).2]) = ps' at hps' ⊢
    have hsum : (ns.take i).sum + n = (ns.take (i + 1)).sum := by
      rw [List.take_add_one, hn]; simp
    rw [hsum] at hps'
    show wpAny _ A.in1 (newTuple (ps'.map fun x => rawInt x.toNat) >>= _) _ _ _
    refine wpAny_bind (wpAny_newTuple ?_ ?_)
    · refine wpAny_pure ⟨plainId_quiet plain_fsum_loop _, ih (i + 1) _ _ _ ps' (by omega) hlt ?_ ?_ ?_ ?_ hps' fun s' x t' hx S => hR s' x t' hx ⟨fun b o nb e => S.k b o nb (Heap.get?_push_of_some _ (hk' b o (by simpa using nb) e)), S.g, S.o⟩⟩
      · obtain ⟨o, e, r⟩ := hst'.1; exact ⟨o, Heap.get?_push_of_some _ e, r⟩
      · exact hst'.2.push _
      · exact ⟨_, Heap.get?_push_size _ rfl, rfl, _, rfl⟩
      · exact ⟨oq, Heap.get?_push_of_some _ (hk' _ _ (notI hq hit) eq), by assumption, nq, dq⟩
    · rcases hps' with ⟨_, rfl⟩ | ⟨x, rfl, _⟩ <;> (rw [sizeLine_eq]; simp)
end
end Mine
end
/-! text D7 -/
section
open PySem PySem.Calls PySem.W PyProof.Rows
namespace Mine
section
variable {w : World} {A : Around} {E : Value → Shared → Prop} {s : Shared} {H₀ : Heap} {mg mb : Str → Option Value}
theorem fsum_call {a : Addr} {ns : List Nat} {Q : Value → Shared → Prop} (hh : A.handled = none) (ha : IsNats s.heap a ns) (h01 : ∀ n ∈ ns, n ≤ 1) (hlen : ns.length ≤ 900)
    (h : ∀ s' x t, FV x ((ns.sum : Int) * 2 ^ 30) → Sm No s s' → Q (.float x t) s') : wpAny (model Prg w) A (call (.builtin "math.fsum") [.ref a]) Q E s := by
  obtain ⟨vs, hl, f⟩ := ha
  refine call_function_tree kind_fsum plain_fsum entry_fsum (args_fsum1 _) ?_
  unfold Builtin.«math.fsum»
  refine wpAny_bind (m := Builtin.Math.mathOne "fsum" _) (wpAny_pure ?_)
  refine wpAny_bind (iter_list hl fun I s₁ nI hne st hl₁ S₁ => ?_)
  show wpAny _ A.in1 (newTuple [] >>= _) _ _ _
  refine wpAny_bind (wpAny_newTuple ?_ (by rw [sizeLine_eq]; simp))
  show wpAny _ A.in1 (newTuple [rawInt (Float64.zero false).toNat, rawInt (Float64.zero false).toNat] >>= _) _ _ _
  refine wpAny_bind (wpAny_newTuple ?_ (by rw [sizeLine_eq]; simp))
  refine wpAny_pure ⟨plainId_quiet plain_fsum_loop _, ?_⟩
  refine fsum_loop hh f h01 hlen I a hne _ 0 _ _ _ [] rfl (Nat.zero_le _) ?_ ((hl₁.push _).push _) ⟨_, Heap.get?_push_of_some _ (Heap.get?_push_size _ rfl), rfl, _, rfl⟩ ⟨_, Heap.get?_push_size _ rfl, rfl, _, rfl⟩ (.inl ⟨by simp, rfl⟩) fun s' x t hx S => h s' x t hx ?_
  · obtain ⟨o, e, r⟩ := st; exact ⟨o, Heap.get?_push_of_some _ (Heap.get?_push_of_some _ e), r⟩
  · refine ⟨fun b o _ e => S.k b o (fun q => by rw [q, nI] at e; cases e) (Heap.get?_push_of_some _ (Heap.get?_push_of_some _ (S₁.kp b o e))), S.g.trans S₁.g, S.o.trans S₁.o⟩
end
end Mine
end
/-! text D8 -/
section
open PySem PySem.Calls PySem.W PyProof.Rows
namespace Mine
theorem not_overN {n : Nat} (h : n < 2 ^ 20) : ¬ PySem.Flt.Over (n : Int) := by
  intro o
  have e := PySem.Flt.inf_of_over o
  rw [(FV.ofInt (i := (n : Int)) (by omega)).notInf] at e
  cases e
section
variable {w : World} {A : Around} {E : Value → Shared → Prop} {s : Shared} {H₀ : Heap} {mg mb : Str → Option Value}
/-- a float over a count -/
theorem divFN {x : UInt64} {n : Nat} {t u : Tok} {Q : Value → Shared → Prop} (hh : A.handled = none) (h0 : 0 < n) (hn : n < 2 ^ 20) (h : ∀ t tk, Q (.float (Float64.div x (Float64.ofInt (n : Int))) t) { s with toks := tk }) :
    wpAny (model Prg w) A (binaryOp .Div (.float x t) (.int (n : Int) u)) Q E s :=
  PySem.Flt.truediv_fi hh (fun o => absurd o (not_overN hn)) (fun e => absurd e (by omega)) fun _ _ => h _ _

theorem fmean_spec {a : Addr} {ns : List Nat} {Q : Value → Shared → Prop} (G : Gx w H₀ mg mb) (B : Bk H₀ s.heap) (R : Rm A 3) (ha : IsNats s.heap a ns) (h0 : 0 < ns.length) (hlen : ns.length ≤ 900) (h01 : ∀ n ∈ ns, n ≤ 1)
    (h : ∀ x f t s', FV f ((ns.sum : Int) * 2 ^ 30) → x = Float64.div f (Float64.ofInt (ns.length : Int)) → Sm No s s' → Q (.float x t) s') : wpAny (model Prg w) A (call (.ref 63) [.ref a]) Q E s := by
  refine call_own (args := ⟨[.ref a], []⟩) (binds := [(Str.ofString "data", .ref a), (Str.ofString "weights", .none)]) (nms := [Str.ofString "data", Str.ofString "weights"]) G B (R.le (by decide : 2 ≤ 3)) (by with_unfolding_all rfl) (by with_unfolding_all rfl) (binds_K (K := Kp w) (G.inn B) rfl (by with_unfolding_all rfl) rfl rfl rfl) rfl rfl (by decide) (by decide) rfl rfl rfl ?_
  intro s₁ F S B₁ R₁
  generalize Around.deeper A _ = A₁ at R₁ ⊢
  have ha1 := ha.keep S.kp.toS
  refine wpAny_execs_cons (wpAny_If ?_)
  refine wpAny_isTrue_Compare1 (evL F rfl (wpAny_Constant_none (wpAny_is_self rfl (wpAny_truthy_bool ?_)))) (by with_unfolding_all rfl)
  refine wpAny_execs_cons (wpAny_Try_except (wpAny_execs_cons ?_))
  refine wpAny_Assign_Name ((EvZ.lenN G B₁ rfl rfl rfl (.loc F rfl) ha1 (by omega)).run fun tk t => ?_) rfl
  refine stC (s := { s₁ with toks := tk }) F (fun s₂ F₂ S₂ => ?_) rfl rfl (Nat.lt_succ_self _) (Nat.le_refl _)
  refine wpAny_execs_nil (wpAny_execs_nil ?_)
  have B₂ : Bk H₀ s₂.heap := B₁.monoX S₂.k fun b hb => frame_new B hb.1
  have ha2 := ha1.keep (F.keepS S₂.k)
  refine wpAny_execs_cons ?_
  refine asF H₀ 1 ?_
  refine callGl (id := "math.fsum") (by with_unfolding_all rfl) G B₂ rfl rfl (items1 (evL F₂ rfl ?_))
  refine fsum_call R₁.hd ha2 h01 hlen fun s₃ f tf hf S₃ => ⟨_, F₂.mono S₃.kp, fun s₄ F₄ S₄ => ?_⟩
  refine wpAny_execs_cons (wpAny_If (wpAny_isTrue_Not ((EvT.valN (.cell F₄ rfl rfl rfl (Nat.lt_succ_self _) (Nat.le_refl _))).run fun tk => ?_)))
  have e : decide (ns.length ≠ 0) = true := decide_eq_true (by omega)
  rw [e]
  refine wpAny_execs_nil (wpAny_execs_cons (wpAny_Return_some ?_))
  refine wpAny_BinOp (evL (s := { s₄ with toks := tk }) F₄ rfl (evC (s := { s₄ with toks := tk }) F₄ rfl ?_ rfl rfl (Nat.lt_succ_self _) (Nat.le_refl _)))
  refine divFN R₁.hd h0 (by omega) fun t tk => h _ _ _ _ hf rfl ?_
  have S14 : Sm (Inter s.heap.objs.size 1) s₁ s₄ := Sm.trans (s' := s₂) ⟨S₂.k, S₂.g, S₂.o⟩ (S₃.any.trans S₄)
  have := S.fresh (X := Inter s.heap.objs.size 1) S14 fun b hb => Heap.get?_none_of_le hb.1
  exact ⟨this.k, this.g, this.o⟩
end
end Mine
end
/-! text D9 -/
section
open PySem PySem.Calls PySem.W PyProof.Rows
namespace Mine
theorem passing_all (n : Nat) : passing (fun _ => true) n 0 = List.range n := by
  unfold passing; rw [List.drop_zero]; exact filter_true
section
variable {w : World} {A : Around} {E : Value → Shared → Prop} {s : Shared} {H₀ : Heap} {mg mb : Str → Option Value}
theorem codeOf (G : Gx w H₀ mg mb) (B : Bk H₀ s.heap) : ∃ ps, s.heap.IsCode 83 79 ps ∧ s.heap.TableAt 83 79 ps := by
  obtain ⟨o, e, ps, hd, ht, ho⟩ := B.tab
  have hc : ∃ oc, (Kp w).lookup 83 = some oc ∧ ∃ vs file tf flags tg inF text tt, oc.data = .fields vs ∧ oc.cls = .type "code" ∧ vs[11]? = some (.ref 79) ∧ vs.getD 11 .none = .ref 79 ∧ vs.getD 18 .none = .str file tf ∧ vs.getD 7 .none = .int flags tg ∧ vs.getD 9 .none = .bool inF ∧ vs.getD 10 .none = .int text tt :=
    ⟨_, by with_unfolding_all rfl, _, _, _, _, _, _, _, _, rfl, rfl, rfl, rfl, rfl, rfl, rfl, rfl⟩
  obtain ⟨oc, hk, vs, file, tf, flags, tg, inF, text, tt, h1, hcl, h11, h2, h3, h4, h5, h6⟩ := hc
  exact ⟨ps, ⟨oc, vs, file, tf, flags, tg, inF, text, tt, o, G.at B (by decide) hk, h1, h2, h3, h4, h5, h6, e, hd, ht, by decide⟩, ⟨oc, vs, G.at B (by decide) hk, hcl, h1, h11⟩, by rw [e, ho]⟩
theorem wp_builtinsFor {running : Addr} {M : Model} {Q : Addr → Shared → Prop} (G : Gx w H₀ mg mb) (B : Bk H₀ s.heap) (h : Q builtinsNs s) : wpAny M A (builtinsFor mainGlobals running) Q E s := by
  obtain ⟨bm, ob, e, ne, eo, ec, ed, edt⟩ := G.bm
  obtain ⟨o, et, ps, hd, _⟩ := G.tab
  exact wpAny_builtinsFor (G.gl B) e ne (B.keep _ _ (fun q => by subst q; rw [eo] at et; cases et; rw [edt] at hd; cases hd) eo) ec ed edt h

abbrev FlSub (ns : List Nat) (xb : UInt64) (i : Nat) (v : Value) : Prop := ∃ n t, ns[i]? = some n ∧ v = .float (Float64.sub (Float64.ofInt (n : Int)) xb) t
structure GenNew (w : World) (A : Around) (H₀ : Heap) (s : Shared) (ns : List Nat) (xb : UInt64) (l c : Addr) (a C I : Addr) (s' : Shared) : Prop where
  na : s.heap.get? a = none
  nC : s.heap.get? C = none
  nI : s.heap.get? I = none
  aC : a ≠ C
  aI : a ≠ I
  CI : C ≠ I
  Ca : @LT.lt Nat _ C a
  Ia : @LT.lt Nat _ I a
  k : KeepX (· = 79) s.heap s'.heap
  os : s'.os = s.os
  x : ExtT s.heap s'.heap
  g : ∃ gs, s'.gens = s.gens.push gs ∧ gs.bare = true
  B : Bk H₀ s'.heap
  W : WalksS Prg w A.in4 a [a, C, I, l, c, cStatics] [C, I] (GenOnlyQ s.gens.size) ns.length (fun j y => ∃ i, (List.range ns.length)[j]? = some i ∧ FlSub ns xb i y) (GenAt Prg w A.in4 a s.gens.size C [I, l, c, cStatics] [I] (fun _ => true) ns.length (FlSub ns xb))
  at0 : GenAt Prg w A.in4 a s.gens.size C [I, l, c, cStatics] [I] (fun _ => true) ns.length (FlSub ns xb) 0 s'
  old : ∀ b ∈ [a, C, I, l, c, cStatics], ∃ o, s'.heap.get? b = some o

theorem gen_new {env : Env} {x z : Str} {px px' pz pb : Pos} {iter : Expr} {scope : Scope} {cl : List (Str × Addr)} {pos : Pos} {l c : Addr} {ns : List Nat} {xb : UInt64} {tb : Tok} {Q : Value → Shared → Prop} (hh : A.handled = none) (hroom : A.depth < recursionLimit) (G : Gx w H₀ mg mb) (B : Bk H₀ s.heap)
    (hcode : env.code = .ref 83) (hgl : env.globals = mainGlobals) (hev : EvV w A s env iter (.ref l)) (hl : IsNats s.heap l ns) (h01 : ∀ n ∈ ns, n ≤ 1) (hc : s.heap.IsCell c (some (.float xb tb)))
    (hco : scope.isCoroutine = false) (hclos : closureFor scope env = pure cl) (hcell : ∀ y ∈ scope.names, y.2 ≠ .cell) (h0 : scope.names.lookup (".0" : Str) = some NameKind.local)
    (hx : scope.names.lookup x = some .local) (hz : scope.names.lookup z = some .free) (hcl : cl.lookup z = some c) (hkind : scope.kind = .function) (hs : ∀ x, genFold iter env x = pure x)
    (hxd : (x == ("__debug__" : Str)) = false) (hzd : (z == ("__debug__" : Str)) = false) (hzc : (z == ("__classdict__" : Str)) = false)
    (h : ∀ a C I s', GenNew w A H₀ s ns xb l c a C I s' → Q (.ref a) s') :
    wpAny (model Prg w) A (eval (.GeneratorExp (.BinOp (.Name x px) .Sub (.Name z pz) pb) [⟨.Name x px', iter, [], 0⟩] scope pos) env) Q E s := by
  obtain ⟨vs, hl, f⟩ := hl
  refine wpAny_GeneratorExp_make hco hclos hcell h0 hkind hroom (hev.run fun tk => iter_list (s := { s with toks := tk }) hl fun I s₂ nI hne st hl₂ S₂ => ⟨G.nolim (B.mono S₂.kp), ?_⟩) hs
  have B₂ := B.mono S₂.kp
  obtain ⟨ps, hok, htab⟩ := codeOf G B₂
  have make : ∀ {M : Model} {A' : Around} {E' : Value → Shared → Prop} {Q' : Value → Shared → Prop} {pos' : Pos} {qn : Str} {sc : Scope},
      (∀ code h' tk ps', Heap.ExtBut 79 s₂.heap h' → h'.IsCode 83 79 ps' → h'.TableAt 83 79 ps' → ExtT s₂.heap h' → Q' code { s₂ with heap := h', toks := tk }) → wpAny M A' (genexprCode env pos' qn sc) Q' E' s₂ := fun {M A' E' Q' pos' qn sc} hQ => by
    cases hnf : codeAmong pos' ps.toList with
    | some cv => exact wpAny_genexprCode_hit hcode hok hnf (hQ cv s₂.heap s₂.toks ps (Heap.ExtBut.refl _ _) hok htab (.of_get fun _ e => e))
    | none =>
      exact wpAny_genexprCodeX hcode hok htab hnf fun c' h' tk hx _ _ a1 _ a2 _ => hQ _ _ _ _ hx a1 a2 fun ps₁ e₁ => by
        have := htab.2
        rw [e₁] at this
        have e2 : ps₁ = ps := by have := Option.some.inj this; injection this with _ _ h3; injection h3
        subst e2
        exact ⟨_, a2.2⟩
  refine make fun code h₃ tk₃ ps' hx₃ hok₃ htab₃ xt₃ => ?_
  have k3 : KeepX (· = 79) s₂.heap h₃ := fun b o nb e => hx₃ b o nb e
  have tab3 : ∃ o, h₃.get? 79 = some o ∧ TabOk o := by
    obtain ⟨o, vs, file, tf, flags, tg, inF, text, tt, op, a1, a2, a3, a4, a5, a6, a7, a8, a9, a10, a11⟩ := hok₃
    have e8 := htab₃.2
    rw [a8] at e8
    exact ⟨op, a8, _, a9, a10, Option.some.inj e8⟩
  have B₃ : Bk H₀ h₃ := ⟨fun b o nb e => k3 b o nb (B₂.keep b o nb e), tab3⟩
  rw [hgl]
  refine wp_builtinsFor (s := { s₂ with heap := h₃, toks := tk₃ }) G B₃ ?_
  intro h₄ hn₄ hs₄
  have k02 : Keep s.heap s₂.heap := S₂.kp
  have keep' : ∀ b o, h₃.get? b = some o → h₄.get? b = some o := fun b o e => hs₄.extBut b o (Nat.ne_of_lt (Heap.lt_size e)) (Heap.get?_push_of_some _ e)
  have hsz : h₄.objs.size = h₃.objs.size + 1 := by rw [hs₄.1, Heap.size_push]
  have keep₅ : ∀ o₅ b o, h₃.get? b = some o → (h₄.push o₅).get? b = some o := fun o₅ b o e => Heap.get?_push_of_some _ (keep' b o e)
  obtain ⟨oI, eI, _⟩ := id st
  obtain ⟨ol, el, _⟩ := id hl
  obtain ⟨oc, ec, _⟩ := id hc
  have n79 : ∀ b o, s₂.heap.get? b = some o → (∀ ps, o.data ≠ .fields ps) → b ≠ 79 := fun b o e hd q => by
    obtain ⟨ot, et, ps, hdt, _⟩ := B₂.tab
    subst q; rw [e] at et; cases et; exact hd _ hdt
  have n79' : ∀ b o, s.heap.get? b = none → s₂.heap.get? b = some o → b ≠ 79 := fun b o e e' q => by
    obtain ⟨ot, et, _⟩ := B.tab
    subst q; rw [e] at et; cases et
  have eI3 : h₃.get? I = some oI := k3 _ _ (n79' _ _ nI eI) eI
  have el3 : h₃.get? l = some ol := k3 _ _ (n79 _ _ (k02 _ _ el) (by obtain ⟨o', e', _, n, d⟩ := hl; rw [el] at e'; cases e'; intro ps q; rw [d] at q; cases q)) (k02 _ _ el)
  have hc2 := hc.keeps k02
  have ec3 : h₃.get? c = some oc := k3 _ _ (n79 _ _ (k02 _ _ ec) (by obtain ⟨o', e', d⟩ := hc; rw [ec] at e'; cases e'; intro ps q; rw [d] at q; cases q)) (k02 _ _ ec)
  have hcS3 : ∃ oS, h₃.get? cStatics = some oS := by obtain ⟨mc, ⟨o, _, _, e, _⟩, _⟩ := G.nolim B₃; exact ⟨o, e⟩
  obtain ⟨oS, eS3⟩ := hcS3
  have hIS : I ≠ cStatics := fun q => by
    obtain ⟨mc, ⟨o, _, _, e, _⟩, _⟩ := G.nolim B
    subst q
    have : s.heap.get? cStatics = none := nI
    rw [e] at this; cases this
  have lt3 : ∀ {b o}, h₃.get? b = some o → @LT.lt Nat _ b h₃.objs.size := fun e => Heap.lt_size e
  have hIc : I ≠ c := fun q => by subst q; have : s.heap.get? I = none := nI; rw [ec] at this; cases this
  have hlen : ns.length = vs.toArray.size := by rw [List.size_toArray]; exact f.length.symm
  have all3 : ∀ b ∈ [I, l, c, cStatics], ∃ o, h₃.get? b = some o := fun b hm => by
    simp only [List.mem_cons, List.not_mem_nil, or_false] at hm
    rcases hm with rfl | rfl | rfl | rfl
    · exact ⟨_, eI3⟩
    · exact ⟨_, el3⟩
    · exact ⟨_, ec3⟩
    · exact ⟨_, eS3⟩
  have haf : h₄.objs.size ∉ [I, l, c, cStatics] := fun hm => by
    obtain ⟨o, e⟩ := all3 _ hm
    have := lt3 e; omega
  have hCf : h₃.objs.size ∉ [I, l, c, cStatics] := fun hm => by
    obtain ⟨o, e⟩ := all3 _ hm
    exact Nat.lt_irrefl _ (lt3 e)
  have W₀ : ∀ A' : Around, A'.handled = none → Walks Prg w A' I [I, l, c, cStatics] [I] ns.length (fun i v => vs.toArray[i]? = some v) (fun i h => h.IsListIter I l i ∧ h.IsList l vs.toArray) := fun A' hA => by
    rw [hlen]
    exact (Walks.list hA I l hne vs.toArray).mono_fp fun b hb => by
      rcases List.mem_cons.mp hb with e | hb
      · rw [e]; exact List.mem_cons_self
      · rw [List.mem_singleton] at hb; rw [hb]; simp
  have Wg := WalksS.genexpQ (prog := Prg) (w := w) (A := A.in4) hh h₄.objs.size s₂.gens.size h₃.objs.size [I, l, c, cStatics] [I] (fun _ => true) ns.length (FlSub ns xb) (by rw [hsz]; exact Nat.succ_ne_self _) haf (fun b hb => by rw [List.mem_singleton] at hb; rw [hb]; exact List.mem_cons_self) hroom (by simp) (fun q => by have := lt3 eS3; rw [q] at this; exact Nat.lt_irrefl _ this) (fun hm => by rw [List.mem_singleton] at hm; exact hIS hm.symm)
  simp only [passing_all, List.length_range] at Wg
  have eg : s₂.gens.size = s.gens.size := by rw [S₂.g]
  have kx : KeepX (· = 79) s.heap h₃ := fun b o nb e => k3 b o nb (k02 b o e)
  obtain ⟨o79, e79, _⟩ := tab3
  have l79 := lt3 e79
  have keepA := keep₅ { cls := .type "generator", data := .fields #[.int s₂.gens.size 0, .str "<genexpr>" (tk₃ + 1), .str (env.qual ++ "<genexpr>") (tk₃ + 1 + 1)] }
  refine h h₄.objs.size h₃.objs.size I _ ⟨none_of_keepX kx (fun q => ?_) (Heap.get?_none_of_le (by rw [hsz]; exact Nat.le_succ _)), none_of_keepX kx (fun q => ?_) new_of_size, nI, ?_, fun q => haf (q ▸ List.mem_cons_self), fun q => hCf (q ▸ List.mem_cons_self), by rw [hsz]; exact Nat.lt_succ_self _, by rw [hsz]; exact Nat.lt_succ_of_lt (lt3 eI3), fun b o nb e => keepA b o (kx b o nb e), S₂.o, (ExtT.of_get fun o e => k02 _ _ e).trans (xt₃.trans (.of_get fun o e => keepA _ _ e)), ⟨_, by rw [S₂.g], rfl⟩, B₃.mono keepA, by rw [← eg]; exact Wg, ?_, ?_⟩
  · have : h₄.objs.size = 79 := q
    omega
  · have : h₃.objs.size = 79 := q
    omega
  · rw [hsz]; exact Nat.succ_ne_self _
  · rw [← eg]
    refine GenAt.fresh (A := A.in4) (cenv := genEnv scope cl h₃.objs.size code builtinsNs env) (m := fun y => if y = ".0" then some (.ref I) else none) hh W₀ _ _ hx (by simp [genEnv, hkind]) hco hCf ?_ ⟨_, _, _, Heap.get?_push_size _ rfl, rfl, rfl, rfl⟩ (Array.getElem?_push_size ..) ⟨?_, ?_⟩ (hn₄.push _) (G.nolim (B₃.mono keepA))
    · refine ⟨fun A' E' i v s₅ m₅ hA hP hn5 hm5 hkp => wpAny_tests_nil ⟨rfl, ?_⟩, fun A' E' i v s₅ m₅ hA hP _ hn5 hm5 hkp => ?_⟩
      · exact ⟨s₅.heap, s₅.toks, rfl, fun _ _ e => e⟩
      · obtain ⟨n, hn, t, rfl⟩ := f.get' (by simpa using hP)
        refine wpAny_BinOp (wpAny_Name (wpAny_loadName_local hkind hx hn5 hm5 ?_) hxd)
        refine wpAny_Name (wpAny_loadName_free (c := c) (v := .float xb tb) hkind hz hcl ?_ ?_ hzc) hzd
        · obtain ⟨o', e', d⟩ := hc
          rw [ec] at e'; cases e'
          exact ⟨oc, hkp c (by simp) (fun hm => by rw [List.mem_singleton] at hm; exact hIc hm.symm) _ (keepA _ _ ec3), d⟩
        · refine PySem.AutoFloatOps.sub_if_1 (by rw [(FV.ofInt (i := (n : Int)) (by have := h01 n (List.mem_of_getElem? hn); omega)).notInf]; decide) ?_
          exact ⟨⟨n, _, hn, rfl⟩, _, _, rfl, fun _ _ e => e⟩
    · obtain ⟨o, e, r⟩ := st
      rw [eI] at e; cases e
      exact ⟨oI, keepA _ _ eI3, r⟩
    · obtain ⟨o, e, r⟩ := hl
      rw [el] at e; cases e
      exact ⟨ol, keepA _ _ el3, r⟩
  · intro b hm
    rcases List.mem_cons.mp hm with rfl | hm
    · exact ⟨_, Heap.get?_push_size _ rfl⟩
    rcases List.mem_cons.mp hm with rfl | hm
    · obtain ⟨o, _, _, e, _⟩ := hn₄
      exact ⟨o, Heap.get?_push_of_some _ e⟩
    · obtain ⟨o, e⟩ := all3 _ hm
      exact ⟨o, keepA _ _ e⟩
end
end Mine
end
/-! text D10 -/
section
open PySem PySem.Calls PySem.W PyProof.Rows
namespace Mine
theorem kind_sumprod : builtinKind "math.sumprod" = none := by decide +kernel
theorem plain_sumprod : plainId "math.sumprod" = true := by decide +kernel
theorem entry_sumprod : entryFor table "math.sumprod" = some Builtin.«math.sumprod» := entryFor_of_tree (by kernel_rfl)
theorem args_sumprod2 (a b : Value) : argsOk "math.sumprod" ⟨[a, b], []⟩ := by unfold argsOk; kernel_rfl
theorem plain_sumprod_loop : plainId "math.sumprod.loop" = true := by decide +kernel
theorem entry_sumprod_loop : entryFor table "math.sumprod.loop" = some Builtin.«math.sumprod.loop» := entryFor_of_tree (by kernel_rfl)

open Builtin.Math in
theorem dlSum_FV {x y : UInt64} {a b : Int} (hx : FV x a) (hy : FV y b) (ha : a.natAbs < 2 ^ 40) (hb : b.natAbs < 2 ^ 40) : FV (dlSum x y).1 (a + b) ∧ FV (dlSum x y).2 0 := by
  have hs := FV.add hx hy (by omega)
  have hz := FV.sub hs hx (by omega)
  have h1 := FV.sub hs hz (by omega)
  have h2 := FV.sub hx h1 (by omega)
  have h3 := FV.sub hy hz (by omega)
  have h4 := FV.add h2 h3 (by omega)
  refine ⟨hs, ?_⟩
  have e : a - (a + b - (a + b - a)) + (b - (a + b - a)) = 0 := by omega
  rw [e] at h4
  exact h4
open Builtin.Math in
theorem tlFma_FV {x y hi lo ti : UInt64} {a b c S : Int} (hx : FV x a) (hy : FV y b) (hc : a * b = c * 2 ^ 30) (h1 : FV hi S) (h2 : FV lo 0) (h3 : FV ti 0) (bc : c.natAbs < 2 ^ 39) (bS : S.natAbs < 2 ^ 39) :
    FV (tlFma x y (hi, lo, ti)).1 (S + c) ∧ FV (tlFma x y (hi, lo, ti)).2.1 0 ∧ FV (tlFma x y (hi, lo, ti)).2.2 0 := by
  have m1 := FV.mul hx hy hc (by omega)
  have m2 := FV.fma0 hx hy hc (by omega)
  have s1 := dlSum_FV h1 m1 (by omega) (by omega)
  have s2 := dlSum_FV h2 m2 (by decide) (by decide)
  have s3 := dlSum_FV s2.1 s1.2 (by decide) (by decide)
  have s4 := FV.add h3 s2.2 (by decide)
  have s5 := FV.add s4 s3.2 (by decide)
  exact ⟨s1.1, s3.1, s5⟩
open Builtin.Math in
theorem tlToFloat_FV {hi lo ti : UInt64} {S : Int} (h1 : FV hi S) (h2 : FV lo 0) (h3 : FV ti 0) (bS : S.natAbs < 2 ^ 39) : FV (tlToFloat (hi, lo, ti)) S := by
  have s1 := dlSum_FV h2 h1 (by decide) (by omega)
  have s2 := FV.add h3 s1.2 (by decide)
  have s3 := FV.add s2 s1.1 (by omega)
  have e : 0 + 0 + (0 + S) = S := by omega
  rw [e] at s3
  exact s3

section
variable {w : World} {A : Around} {E : Value → Shared → Prop} {s : Shared} {R : Result → Shared → Prop}
theorem genAt_move {a : Addr} {g : Nat} {C : Addr} {fp wr : List Addr} {pz : Nat → Bool} {n₀ : Nat} {F : Nat → Value → Prop} {j : Nat} {s s' : Shared} (st : GenAt Prg w A a g C fp wr pz n₀ F j s) (hcs : cStatics ∈ fp)
    (hk : ∀ b ∈ a :: C :: fp, ∀ o, s.heap.get? b = some o → s'.heap.get? b = some o) (hg : s'.gens[g]? = s.gens[g]?) : GenAt Prg w A a g C fp wr pz n₀ F j s' :=
  ⟨let ⟨o, nm, qn, ho, r⟩ := st.1; ⟨o, nm, qn, hk a (List.mem_cons_self ..) o ho, r⟩,
   (let ⟨mc, hns, hnn⟩ := st.2.1; ⟨mc, hns.at' fun o e => hk cStatics (List.mem_cons_of_mem _ (List.mem_cons_of_mem _ hcs)) o e, hnn⟩),
   let ⟨gs, hgs, hgo⟩ := st.2.2; ⟨gs, hg.trans hgs, fun s'' hal => hgo s'' fun b hb o e => hal b hb o (hk b (List.mem_cons_of_mem _ hb) o e)⟩⟩

def psum (p : Nat → Int) (i : Nat) : Int := ((List.range i).map p).sum
theorem psum_succ (p : Nat → Int) (i : Nat) : psum p (i + 1) = psum p i + p i := by unfold psum; rw [List.range_succ, List.map_append, List.sum_append]; simp
theorem psum_le {p : Nat → Int} {n : Nat} (h : ∀ j, j < n → (p j).natAbs < 2 ^ 32) (hn : n ≤ 100) : ∀ i, i ≤ n → (psum p i).natAbs ≤ i * 2 ^ 32
  | 0, _ => by simp [psum]
  | i + 1, hi => by rw [psum_succ]; have := psum_le h hn i (by omega); have := h i (by omega); omega

abbrev triple (hi lo ti : UInt64) : Array Value := #[rawInt hi.toNat, rawInt lo.toNat, rawInt ti.toNat]
theorem sumprod_loop {ns ms : List Nat} {xb yb : UInt64} {X Y : Int} {a1 C1 I1 l1 c1 a2 C2 I2 l2 c2 : Addr} {g1 g2 : Nat} (hh : A.handled = none) (hlen : ms.length = ns.length) (hn0 : 0 < ns.length) (hn : ns.length ≤ 100)
    (hX : FV xb X) (hY : FV yb Y) (bX : X.natAbs ≤ 2 ^ 31) (bY : Y.natAbs ≤ 2 ^ 31) (h1 : ∀ n ∈ ns, n ≤ 1) (h2 : ∀ n ∈ ms, n ≤ 1) (p : Nat → Int) (hp : ∀ (j n m : Nat), ns[j]? = some n → ms[j]? = some m → ((n : Int) * 2 ^ 30 - X) * ((m : Int) * 2 ^ 30 - Y) = p j * 2 ^ 30)
    (hpb : ∀ j, j < ns.length → (p j).natAbs < 2 ^ 32) (hg : g1 ≠ g2)
    (W1 : WalksS Prg w A.in1 a1 [a1, C1, I1, l1, c1, cStatics] [C1, I1] (GenOnlyQ g1) ns.length (fun j y => ∃ i, (List.range ns.length)[j]? = some i ∧ FlSub ns xb i y) (GenAt Prg w A.in4 a1 g1 C1 [I1, l1, c1, cStatics] [I1] (fun _ => true) ns.length (FlSub ns xb)))
    (W2 : WalksS Prg w A.in1 a2 [a2, C2, I2, l2, c2, cStatics] [C2, I2] (GenOnlyQ g2) ns.length (fun j y => ∃ i, (List.range ms.length)[j]? = some i ∧ FlSub ms yb i y) (GenAt Prg w A.in4 a2 g2 C2 [I2, l2, c2, cStatics] [I2] (fun _ => true) ms.length (FlSub ms yb)))
    (hC1 : @LT.lt Nat _ C1 a1) (hI1 : @LT.lt Nat _ I1 a1) (hC2 : @LT.lt Nat _ C2 a2) (hI2 : @LT.lt Nat _ I2 a2)
    (d12 : ∀ b ∈ [a2, C2, I2, l2, c2, cStatics], b ∉ [C1, I1]) (d21 : ∀ b ∈ [a1, C1, I1, l1, c1, cStatics], b ∉ [C2, I2]) :
    ∀ (k i : Nat) (s : Shared) (T : Addr) (hi lo ti : UInt64) (t0 : Tok) (io us : Bool), ns.length - i = k → i ≤ ns.length → (0 < i → us = true) → GenAt Prg w A.in4 a1 g1 C1 [I1, l1, c1, cStatics] [I1] (fun _ => true) ns.length (FlSub ns xb) i s →
      GenAt Prg w A.in4 a2 g2 C2 [I2, l2, c2, cStatics] [I2] (fun _ => true) ms.length (FlSub ms yb) i s → s.heap.IsTuple T (triple hi lo ti) → T ∉ [C1, I1, C2, I2] → FV hi (psum p i) → FV lo 0 → FV ti 0 →
      (∀ s' x t, FV x (psum p ns.length) → KeepX (· ∈ [C1, I1, C2, I2]) s.heap s'.heap → s'.os = s.os → ((∀ y ∈ s.gens, y.bare = true) → ∀ y ∈ s'.gens, y.bare = true) → R (.ok (.ret (.float x t))) s') →
      codeAny (model Prg w) A (.builtin "math.sumprod.loop" ⟨[.ref a1, .ref a2, .int 0 t0, .bool io, rawInt 0, .bool false, .bool true, .ref T, .bool us], []⟩) R s := by
  have gother : ∀ {g g' : Nat} {a b : Array GenState}, GenOnlyQ g a b → g' ≠ g → b[g']? = a[g']? := fun x hne => by
    rcases x with rfl | x
    · rfl
    · exact x.1.2 _ hne
  have inL : ∀ {b}, b ∈ [C1, I1] → b ∈ [C1, I1, C2, I2] := fun {b} hm => by
    simp only [List.mem_cons, List.not_mem_nil, or_false] at hm ⊢
    rcases hm with h | h <;> simp [h]
  have inR : ∀ {b}, b ∈ [C2, I2] → b ∈ [C1, I1, C2, I2] := fun {b} hm => by
    simp only [List.mem_cons, List.not_mem_nil, or_false] at hm ⊢
    rcases hm with h | h <;> simp [h]
  intro k
  induction k with
  | zero =>
    intro i s T hi lo ti t0 io us hk hi' hus st1 st2 hT nT v1 v2 v3 hR
    obtain rfl : i = ns.length := by omega
    have hb := psum_le hpb hn _ (Nat.le_refl _)
    refine codeAny_builtin entry_sumprod_loop ?_
    rw [Around.under_plainId plain_sumprod_loop _]
    obtain ⟨oT, eT, _, nT', dT⟩ := id hT
    show wpAny _ A.in1 (seqItems? (.ref T) >>= _) _ _ s
    refine wpAny_bind (wpAny_seqItems eT dT ?_)
    show wpAny _ A.in1 (pyNext (.ref a1) >>= _) _ _ s
    refine wpAny_bind (W1.done s _ _ st1 fun s₁ M1 => ?_)
    have st2' := genAt_move st2 (by simp) (fun b hb o e => M1.heap b o (d12 b hb) e) (gother M1.gens hg.symm)
    refine wpAny_bind (wpAny_holding (W2.done s₁ _ _ st2' fun s₂ M2 => ?_))
    dsimp only
    have bk : ∀ x : UInt64, ((x.toNat : Int)).toNat.toUInt64 = x := fun x => by simp
    have hus' := hus hn0
    subst hus'
    simp only [Option.isSome_none, bne_self_eq_false, Bool.false_eq_true, if_false, if_true, bk]
    have k2 : KeepX (· ∈ [C1, I1, C2, I2]) s.heap s₂.heap := fun b o nb e => M2.heap b o (fun hm => nb (inR hm)) (M1.heap b o (fun hm => nb (inL hm)) e)
    have go : wpAny (model Prg w) A.in1 (rule "math.sumprod.leaves-floats" >>= fun _ => mkFloat (Builtin.Math.tlToFloat (hi, lo, ti)) >>= fun fl => holding (.int 0 t0 :: ((none : Option Value).toList ++ (none : Option Value).toList)) (binaryOp .Add (.int 0 t0) fl) >>= fun total => ret total)
        (fun fin s'' => match fin with | .done f => R (.ok f) s'' | .again c' => c'.quiet = true ∧ codeAny (model Prg w) A c' R s'') (fun e s'' => R (.error e) s'') s₂ := by
      refine wpAny_bind (wpAny_rule (wpAny_bind (PySem.Flt.wp_mkFloat (wpAny_bind (wpAny_holding ?_)))))
      refine PySem.AutoFloatOps.add_if_1 (by rw [(FV.ofInt (i := 0) (by decide)).notInf]; decide) ?_
      have fz := FV.add (FV.ofInt (i := 0) (by decide)) (tlToFloat_FV v1 v2 v3 (by omega)) (by omega)
      rw [show (0 : Int) * 2 ^ 30 + psum p ns.length = psum p ns.length by omega] at fz
      exact wpAny_pure (hR _ _ _ fz k2 (M2.os.trans M1.os) fun hy => M2.gens.bare (M1.gens.bare hy))
    cases io with
    | false => exact go
    | true => exact wpAny_bind (wpAny_rule go)
  | succ k ih =>
    intro i s T hi lo ti t0 io us hk hi' hus st1 st2 hT nT v1 v2 v3 hR
    have hlt : i < ns.length := by omega
    refine codeAny_builtin entry_sumprod_loop ?_
    rw [Around.under_plainId plain_sumprod_loop _]
    obtain ⟨oT, eT, _, nT', dT⟩ := id hT
    show wpAny _ A.in1 (seqItems? (.ref T) >>= _) _ _ s
    refine wpAny_bind (wpAny_seqItems eT dT ?_)
    show wpAny _ A.in1 (pyNext (.ref a1) >>= _) _ _ s
    refine wpAny_bind (W1.item i s _ _ hlt st1 fun v s₁ hv st1₁ M1 => ?_)
    have st2' := genAt_move st2 (by simp) (fun b hb o e => M1.heap b o (d12 b hb) e) (gother M1.gens hg.symm)
    refine wpAny_bind (wpAny_holding (W2.item i s₁ _ _ hlt st2' fun u s₂ hu st2₂ M2 => ?_))
    obtain ⟨j, hj, n, tn, hn', rfl⟩ := hv
    obtain ⟨j', hj', m, tm, hm', rfl⟩ := hu
    dsimp only
    have ej : j = i := by rw [List.getElem?_range hlt] at hj; exact (Option.some.inj hj).symm
    have ej' : j' = i := by rw [List.getElem?_range (by omega)] at hj'; exact (Option.some.inj hj').symm
    subst ej
    subst ej'
    have bN := h1 n (List.mem_of_getElem? hn')
    have bM := h2 m (List.mem_of_getElem? hm')
    have fx := FV.sub (FV.ofInt (i := (n : Int)) (by omega)) hX (by omega)
    have fy := FV.sub (FV.ofInt (i := (m : Int)) (by omega)) hY (by omega)
    have bS := psum_le hpb hn j' (by omega)
    have bp := hpb j' hlt
    obtain ⟨r1, r2, r3⟩ := tlFma_FV fx fy (hp _ _ _ hn' hm') v1 v2 v3 (by omega) (by omega)
    rw [← psum_succ] at r1
    have bk : ∀ x : UInt64, ((x.toNat : Int)).toNat.toUInt64 = x := fun x => by simp
    simp only [Option.isSome_some, bne_self_eq_false, Bool.false_eq_true, if_false, if_true, Bool.or_true, bk, r1.finite]
    generalize Builtin.Math.tlFma (Float64.sub (Float64.ofInt ↑n) xb) (Float64.sub (Float64.ofInt ↑m) yb) (hi, lo, ti) = nx at r1 r2 r3 ⊢
    have go : wpAny (model Prg w) A.in1 (newTuple [rawInt nx.1.toNat, rawInt nx.2.1.toNat, rawInt nx.2.2.toNat] >>= fun t => again (Code.builtin "math.sumprod.loop" ⟨[Value.ref a1, Value.ref a2, .int 0 t0, Value.bool false, rawInt 0, Value.bool false, Value.bool true, t, Value.bool true], []⟩))
        (fun fin s'' => match fin with | .done f => R (.ok f) s'' | .again c' => c'.quiet = true ∧ codeAny (model Prg w) A c' R s'') (fun e s'' => R (.error e) s'') s₂ := by
      refine wpAny_bind (wpAny_newTuple ?_ (by rw [sizeLine_eq]; simp))
      have k2 : KeepX (· ∈ [C1, I1, C2, I2]) s.heap s₂.heap := fun b o nb e => M2.heap b o (fun hm => nb (inR hm)) (M1.heap b o (fun hm => nb (inL hm)) e)
      refine wpAny_pure ⟨plainId_quiet plain_sumprod_loop _, ih (j' + 1) _ s₂.heap.objs.size nx.1 nx.2.1 nx.2.2 t0 false true (by omega) hlt (fun _ => rfl) ?_ ?_ ⟨_, Heap.get?_push_size _ rfl, rfl, _, rfl⟩ ?_ r1 r2 r3 fun s' x t hx kx ho hb => hR s' x t hx (fun b o nb e => kx b o nb (Heap.get?_push_of_some _ (k2 b o nb e))) (ho.trans (M2.os.trans M1.os)) fun hy => hb (M2.gens.bare (M1.gens.bare hy))⟩
      · exact genAt_move st1₁ (by simp) (fun b hb o e => Heap.get?_push_of_some _ (M2.heap b o (d21 b hb) e)) (gother M2.gens hg)
      · exact genAt_move st2₂ (by simp) (fun b hb o e => Heap.get?_push_of_some _ e) rfl
      · intro hm
        obtain ⟨o1, _, _, e1, _⟩ := (genAt_move (s' := s₂) st1₁ (by simp) (fun b hb o e => M2.heap b o (d21 b hb) e) (gother M2.gens hg)).1
        obtain ⟨o2, _, _, e2, _⟩ := st2₂.1
        have l1 : @LT.lt Nat _ a1 s₂.heap.objs.size := Heap.lt_size e1
        have l2 : @LT.lt Nat _ a2 s₂.heap.objs.size := Heap.lt_size e2
        have q1 := Nat.lt_trans hC1 l1
        have q2 := Nat.lt_trans hI1 l1
        have q3 := Nat.lt_trans hC2 l2
        have q4 := Nat.lt_trans hI2 l2
        simp only [List.mem_cons, List.not_mem_nil, or_false] at hm
        rcases hm with h | h | h | h
        · rw [h] at q1; exact Nat.lt_irrefl _ q1
        · rw [h] at q2; exact Nat.lt_irrefl _ q2
        · rw [h] at q3; exact Nat.lt_irrefl _ q3
        · rw [h] at q4; exact Nat.lt_irrefl _ q4
    cases io with
    | false => exact go
    | true => exact wpAny_bind (wpAny_rule go)
end
end Mine
end
/-! text D11 -/
section
open PySem PySem.Calls PySem.W PyProof.Rows
namespace Mine
def covP (ns ms : List Nat) (j : Nat) : Int := ((ns.length : Int) * (ns.getD j 0 : Nat) - (ns.sum : Nat)) * ((ns.length : Int) * (ms.getD j 0 : Nat) - (ms.sum : Nat)) * (2 ^ 30 / ((ns.length : Int) * ns.length))
section
variable {w : World} {A : Around} {E : Value → Shared → Prop} {s : Shared} {H₀ : Heap} {mg mb : Str → Option Value}
theorem sum01 : ∀ (l : List Nat), (∀ n ∈ l, n ≤ 1) → l.sum ≤ l.length := fun l => by
  induction l with
  | nil => intro _; simp
  | cons x r ih => intro h; have := h x List.mem_cons_self; have := ih fun y hy => h y (List.mem_cons_of_mem _ hy); simp; omega

theorem sumprod_call {ns ms : List Nat} {xb yb : UInt64} {X Y : Int} {a1 C1 I1 l1 c1 a2 C2 I2 l2 c2 : Addr} {s₁ : Shared} {Q : Value → Shared → Prop} (hh : A.handled = none) (G : Gx w H₀ mg mb) (B : Bk H₀ s.heap) (hlen : ms.length = ns.length) (hn0 : 0 < ns.length) (hn : ns.length ≤ 100)
    (hX : FV xb X) (hY : FV yb Y) (bX : X.natAbs ≤ 2 ^ 31) (bY : Y.natAbs ≤ 2 ^ 31) (h1 : ∀ n ∈ ns, n ≤ 1) (h2 : ∀ n ∈ ms, n ≤ 1) (p : Nat → Int) (hp : ∀ (j n m : Nat), ns[j]? = some n → ms[j]? = some m → ((n : Int) * 2 ^ 30 - X) * ((m : Int) * 2 ^ 30 - Y) = p j * 2 ^ 30)
    (hpb : ∀ j, j < ns.length → (p j).natAbs < 2 ^ 32) (l1o : ∃ xs, s.heap.IsList l1 xs) (l2o : ∃ xs, s.heap.IsList l2 xs) (c1o : ∃ v, s.heap.IsCell c1 v) (c2o : ∃ v, s.heap.IsCell c2 v)
    {s₂ : Shared} (N1 : GenNew w A H₀ s ns xb l1 c1 a1 C1 I1 s₁) (N2 : GenNew w A H₀ s₁ ms yb l2 c2 a2 C2 I2 s₂)
    (h : ∀ s' x t, FV x (psum p ns.length) → KeepX (· = 79) s.heap s'.heap → ExtT s.heap s'.heap → s'.os = s.os → ((∀ y ∈ s.gens, y.bare = true) → ∀ y ∈ s'.gens, y.bare = true) → Q (.float x t) s') :
    wpAny (model Prg w) A (call (.builtin "math.sumprod") [.ref a1, .ref a2]) Q E s₂ := by
  obtain ⟨o79, e79, _, d79, _⟩ := B.tab
  have nS : ∃ oS, s.heap.get? cStatics = some oS := by obtain ⟨mc, ⟨o, _, _, e, _⟩, _⟩ := G.nolim B; exact ⟨o, e⟩
  have oL : ∀ {l}, (∃ xs, s.heap.IsList l xs) → ∃ o, s.heap.get? l = some o ∧ l ≠ 79 := fun ⟨xs, o, e, _, n, d⟩ => ⟨o, e, fun q => by subst q; rw [e] at e79; cases e79; rw [d] at d79; cases d79⟩
  have oC : ∀ {l}, (∃ v, s.heap.IsCell l v) → ∃ o, s.heap.get? l = some o ∧ l ≠ 79 := fun ⟨xs, o, e, d⟩ => ⟨o, e, fun q => by subst q; rw [e] at e79; cases e79; rw [d] at d79; cases d79⟩
  have new79 : ∀ {b}, s.heap.get? b = none → b ≠ 79 := fun e q => by rw [q, e79] at e; cases e
  have m79 : ∀ b ∈ [a1, C1, I1, l1, c1, cStatics], b ≠ 79 := fun b hb => by
    simp only [List.mem_cons, List.not_mem_nil, or_false] at hb
    rcases hb with rfl | rfl | rfl | rfl | rfl | rfl
    · exact new79 N1.na
    · exact new79 N1.nC
    · exact new79 N1.nI
    · exact (oL l1o).choose_spec.2
    · exact (oC c1o).choose_spec.2
    · decide
  have st1 : GenAt Prg w A.in4 a1 s.gens.size C1 [I1, l1, c1, cStatics] [I1] (fun _ => true) ns.length (FlSub ns xb) 0 s₂ := by
    obtain ⟨gs, eg, _⟩ := N1.g
    obtain ⟨gs', eg', _⟩ := N2.g
    refine genAt_move N1.at0 (by simp) (fun b hb o e => N2.k b o (m79 b hb) e) ?_
    have hlt : s.gens.size < s₁.gens.size := by rw [eg, Array.size_push]; exact Nat.lt_succ_self _
    rw [eg', Array.getElem?_push_lt hlt, Array.getElem?_eq_getElem hlt]
  have g2e : s₁.gens.size = s.gens.size + 1 := by obtain ⟨gs, eg, _⟩ := N1.g; rw [eg, Array.size_push]
  have d21 : ∀ b ∈ [a1, C1, I1, l1, c1, cStatics], b ∉ [C2, I2] := fun b hb hm => by
    obtain ⟨o, e⟩ := N1.old b hb
    simp only [List.mem_cons, List.not_mem_nil, or_false] at hm
    rcases hm with q | q
    · rw [q, N2.nC] at e; cases e
    · rw [q, N2.nI] at e; cases e
  have oldN : ∀ {b o}, s.heap.get? b = some o → b ∉ [C1, I1] := fun e hm => by
    simp only [List.mem_cons, List.not_mem_nil, or_false] at hm
    rcases hm with q | q
    · rw [q, N1.nC] at e; cases e
    · rw [q, N1.nI] at e; cases e
  have newN : ∀ {b}, s₁.heap.get? b = none → b ∉ [C1, I1] := fun {b} e hm => by
    have : b ∈ [a1, C1, I1, l1, c1, cStatics] := by
      simp only [List.mem_cons, List.not_mem_nil, or_false] at hm ⊢
      rcases hm with q | q <;> simp [q]
    obtain ⟨o, e'⟩ := N1.old _ this
    rw [e] at e'; cases e'
  have d12 : ∀ b ∈ [a2, C2, I2, l2, c2, cStatics], b ∉ [C1, I1] := fun b hb => by
    simp only [List.mem_cons, List.not_mem_nil, or_false] at hb
    rcases hb with rfl | rfl | rfl | rfl | rfl | rfl
    · exact newN N2.na
    · exact newN N2.nC
    · exact newN N2.nI
    · exact oldN (oL l2o).choose_spec.1
    · exact oldN (oC c2o).choose_spec.1
    · exact oldN nS.choose_spec
  have old1 : ∀ b ∈ [a1, C1, I1, l1, c1, cStatics], ∃ o, s₂.heap.get? b = some o := fun b hb => by
    obtain ⟨o, e⟩ := N1.old b hb
    exact ⟨o, N2.k b o (m79 b hb) e⟩
  refine call_function_tree kind_sumprod plain_sumprod entry_sumprod (args_sumprod2 _ _) ?_
  unfold Builtin.«math.sumprod»
  refine wpAny_bind (m := Builtin.Math.mathSome "sumprod" 2 2 _) (wpAny_pure ?_)
  refine wpAny_bind (N1.W.in4_1.self _ _ _ _ st1 ?_)
  refine wpAny_bind (wpAny_holding (N2.W.in4_1.self _ _ _ _ N2.at0 ?_))
  refine wpAny_bind (wpAny_mkInt ?_)
  refine wpAny_bind (wpAny_newTuple ?_ (by rw [sizeLine_eq]; simp))
  refine wpAny_pure ⟨plainId_quiet plain_sumprod_loop _, ?_⟩
  have W2 := N2.W.in4_1
  have W1 := N1.W.in4_1
  rw [hlen] at W2
  have at2 := N2.at0
  have hp0 : psum p 0 = 0 := by simp [psum]
  refine sumprod_loop (g1 := s.gens.size) (g2 := s₁.gens.size) hh hlen hn0 hn hX hY bX bY h1 h2 p hp hpb (by omega) W1 (by rw [hlen]; exact W2) N1.Ca N1.Ia N2.Ca N2.Ia d12 d21 _ 0 _ s₂.heap.objs.size (Float64.zero false) (Float64.zero false) (Float64.zero false) _ _ _ rfl (Nat.zero_le _) (fun h => absurd h (Nat.lt_irrefl _)) ?_ ?_ ⟨_, Heap.get?_push_size _ rfl, rfl, _, rfl⟩ ?_ (by rw [hp0]; exact FV.zero _) (FV.zero _) (FV.zero _) fun s' x t hx kx ho hb => h s' x t hx ?_ (N1.x.trans (N2.x.trans (.of_get fun o e => kx 79 o (fun hm => ?_) (Heap.get?_push_of_some _ e)))) (ho.trans (N2.os.trans N1.os)) fun hy => hb ?_
  · exact genAt_move st1 (by simp) (fun b hb o e => Heap.get?_push_of_some _ e) rfl
  · exact genAt_move at2 (by simp) (fun b hb o e => Heap.get?_push_of_some _ e) rfl
  · intro hm
    have key : ∀ b, (∃ o, s₂.heap.get? b = some o) → s₂.heap.objs.size ≠ b := fun b ⟨o, e⟩ q => by
      have l : @LT.lt Nat _ b s₂.heap.objs.size := Heap.lt_size e
      rw [← q] at l; exact Nat.lt_irrefl _ l
    simp only [List.mem_cons, List.not_mem_nil, or_false] at hm
    rcases hm with q | q | q | q
    · exact key _ (old1 _ (by simp)) q
    · exact key _ (old1 _ (by simp)) q
    · exact key _ (N2.old _ (by simp)) q
    · exact key _ (N2.old _ (by simp)) q
  · intro b o nb e
    refine kx b o (fun hm => ?_) (Heap.get?_push_of_some _ (N2.k b o nb (N1.k b o nb e)))
    simp only [List.mem_cons, List.not_mem_nil, or_false] at hm
    rcases hm with q | q | q | q
    · rw [q, N1.nC] at e; cases e
    · rw [q, N1.nI] at e; cases e
    · have := N1.k b o nb e; rw [q, N2.nC] at this; cases this
    · have := N1.k b o nb e; rw [q, N2.nI] at this; cases this
  · simp only [List.mem_cons, List.not_mem_nil, or_false] at hm
    have t1 := e79
    have t2 : s₁.heap.get? 79 ≠ none := by obtain ⟨o', e', _⟩ := N1.B.tab; rw [e']; exact fun q => by cases q
    rcases hm with q | q | q | q
    · rw [q, N1.nC] at t1; cases t1
    · rw [q, N1.nI] at t1; cases t1
    · rw [q, N2.nC] at t2; exact t2 rfl
    · rw [q, N2.nI] at t2; exact t2 rfl
  · intro y hy'
    obtain ⟨gs, eg, b1⟩ := N1.g
    obtain ⟨gs', eg', b2⟩ := N2.g
    have hy2 : y ∈ s₂.gens := hy'
    rw [eg', eg] at hy2
    rcases Array.mem_push.mp hy2 with q | q
    · rcases Array.mem_push.mp q with q | q
      · exact hy _ q
      · rw [q]; exact b1
    · rw [q]; exact b2
end
end Mine
end
/-! text D12 -/
section
open PySem PySem.Calls PySem.W PyProof.Rows
namespace Mine
theorem cov_num {n c1 c2 x y K : Nat} (h : n = 16 ∧ K = 2 ^ 26 ∨ n = 32 ∧ K = 2 ^ 25) (hx : x ≤ 1) (hy : y ≤ 1) (h1 : c1 ≤ n) (h2 : c2 ≤ n) :
    ((x : Int) * 2 ^ 30 - (c1 : Int) * K) * ((y : Int) * 2 ^ 30 - (c2 : Int) * K) = (((n : Int) * x - c1) * ((n : Int) * y - c2) * (2 ^ 30 / ((n : Int) * n))) * 2 ^ 30 ∧
    (((n : Int) * x - c1) * ((n : Int) * y - c2) * (2 ^ 30 / ((n : Int) * n))).natAbs < 2 ^ 32 := by
  have key : ∀ (A B a b : Int) (k m q : Int), a = A * k → b = B * k → k * k = m * q → a * b = A * B * m * q := fun A B a b k m q e1 e2 e3 => by
    subst e1 e2
    have e4 : A * k * (B * k) = A * B * (k * k) := by simp only [Int.mul_comm, Int.mul_left_comm, Int.mul_assoc]
    rw [e4, e3, ← Int.mul_assoc]
  have bnd : ∀ (A B : Int) (N M : Nat), A.natAbs ≤ N → B.natAbs ≤ N → N * N * M < 2 ^ 32 → ∀ m : Int, m.natAbs = M → (A * B * m).natAbs < 2 ^ 32 := fun A B N M hA hB hM m hm => by
    rw [Int.natAbs_mul, Int.natAbs_mul, hm]
    exact Nat.lt_of_le_of_lt (Nat.mul_le_mul_right _ (Nat.mul_le_mul hA hB)) hM
  rcases h with ⟨rfl, rfl⟩ | ⟨rfl, rfl⟩
  · refine ⟨key _ _ _ _ (2 ^ 26) _ _ ?_ ?_ (by decide), bnd _ _ 16 (2 ^ 22) ?_ ?_ (by decide) _ (by decide)⟩ <;> omega
  · refine ⟨key _ _ _ _ (2 ^ 25) _ _ ?_ ?_ (by decide), bnd _ _ 32 (2 ^ 20) ?_ ?_ (by decide) _ (by decide)⟩ <;> omega
theorem bar_FV {f : UInt64} {n c K : Nat} (h : n = 16 ∧ K = 2 ^ 26 ∨ n = 32 ∧ K = 2 ^ 25) (hc : c ≤ n) (hf : FV f ((c : Int) * 2 ^ 30)) : FV (Float64.div f (Float64.ofInt (n : Int))) ((c : Int) * K) := by
  refine FV.div hf (FV.ofInt (i := (n : Int)) (by omega)) (by omega) ?_ ?_
  · rcases h with ⟨rfl, rfl⟩ | ⟨rfl, rfl⟩ <;> omega
  · rcases h with ⟨rfl, rfl⟩ | ⟨rfl, rfl⟩ <;> omega
section
variable {w : World} {A : Around} {E : Value → Shared → Prop} {s : Shared} {H₀ : Heap} {mg mb : Str → Option Value}

theorem keepS79 {h h' : Heap} (B : Bk H₀ h) (k : KeepX (fun b => b = 79) h h') : KeepS h h' := fun b o xs n e d => k b o (fun q => by
  obtain ⟨o', e', ps, d', _⟩ := B.tab
  subst q; rw [e] at e'; cases e'; rw [d] at d'; cases d') e
set_option maxHeartbeats 200000 in
theorem cov_spec {a b : Addr} {ns ms : List Nat} {Q : Value → Shared → Prop} (G : Gx w H₀ mg mb) (B : Bk H₀ s.heap) (R : Rm A 3) (ha : IsNats s.heap a ns) (hb : IsNats s.heap b ms) (hlen : ms.length = ns.length) (hn : ns.length = 16 ∨ ns.length = 32)
    (h1 : ∀ n ∈ ns, n ≤ 1) (h2 : ∀ n ∈ ms, n ≤ 1) (h : ∀ f t s', FV f (psum (covP ns ms) ns.length) → KeepX (fun b => b = 79) s.heap s'.heap → ExtT s.heap s'.heap → s'.os = s.os → ((∀ y ∈ s.gens, y.bare = true) → ∀ y ∈ s'.gens, y.bare = true) →
      Q (.float (Float64.div f (Float64.ofInt ((ns.length - 1 : Nat) : Int))) t) s') : wpAny (model Prg w) A (call (.ref 84) [.ref a, .ref b]) Q E s := by
  obtain ⟨K, hK⟩ : ∃ K, ns.length = 16 ∧ K = 2 ^ 26 ∨ ns.length = 32 ∧ K = 2 ^ 25 := by
    rcases hn with e | e
    · exact ⟨_, .inl ⟨e, rfl⟩⟩
    · exact ⟨_, .inr ⟨e, rfl⟩⟩
  refine call_own (args := ⟨[.ref a, .ref b], []⟩) (binds := [(Str.ofString "x", .ref a), (Str.ofString "y", .ref b)]) (nms := [Str.ofString "x", Str.ofString "y"]) G B (R.le (by decide : 2 ≤ 3)) (by with_unfolding_all rfl) (by with_unfolding_all rfl) (BindsTo.of_eq rfl) rfl rfl (by decide) (by decide) rfl rfl rfl ?_
  intro s₁ F S B₁ R₁
  generalize Around.deeper A _ = A₁ at R₁ ⊢
  have ha1 := ha.keep S.kp.toS
  have hb1 := hb.keep S.kp.toS
  refine wpAny_execs_cons (asZ F (EvZ.lenN G B₁ rfl rfl rfl (.loc F rfl) ha1 (by omega)) fun s₂ t₂ F₂ S₂ => ?_)
  have B₂ : Bk H₀ s₂.heap := B₁.monoX S₂.k fun b hb => frame_new B hb.1
  have ha2 := ha1.keep (F.keepS S₂.k)
  have hb2 := hb1.keep (F.keepS S₂.k)
  refine wpAny_execs_cons (ifT (.ne (EvZ.lenN G B₂ rfl rfl rfl (.loc F₂ rfl) hb2 (by omega)) (.loc F₂ rfl)) (fun hb tk => ?_) fun hb tk => ?_)
  · have := of_decide_eq_true hb; omega
  refine wpAny_execs_nil (wpAny_execs_cons (ifT (s := { s₂ with toks := tk }) (.lt (.loc F₂ rfl) (.kz 2)) (fun hb tk => ?_) fun hb tk => ?_))
  · have := of_decide_eq_true hb; omega
  refine wpAny_execs_nil (wpAny_execs_cons ?_)
  refine asC (s := { s₂ with toks := tk }) (k := 2) (H₀ := H₀) ?_ rfl rfl (Nat.lt_succ_self _) (Nat.le_succ _)
  refine wpAny_BinOp ?_
  refine callGl (id := "math.fsum") (by with_unfolding_all rfl) G (s := { s₂ with toks := tk }) B₂ rfl rfl (items1 (evL (s := { s₂ with toks := tk }) F₂ rfl ?_))
  refine fsum_call R₁.hd ha2 h1 (by omega) fun s₃ f1 t3 hf1 S₃ => ?_
  have S₃ : Sm No s₂ s₃ := S₃
  refine evL (F₂.mono S₃.kp) rfl (divFN R₁.hd (by omega) (by omega) fun tX tk => ⟨_, F₂.mono S₃.kp, fun s₄ F₄ S₄ => ?_⟩)
  have S₄ : Sm (Inter s.heap.objs.size 2) s₃ s₄ := S₄
  have S24 := S₃.any.trans S₄
  have B₄ : Bk H₀ s₄.heap := B₂.monoX S24.k fun b hb => frame_new B hb.1
  have ha4 := ha2.keep (F₂.keepS S24.k)
  have hb4 := hb2.keep (F₂.keepS S24.k)
  refine wpAny_execs_cons ?_
  refine asC (k := 2) (H₀ := H₀) ?_ rfl rfl (Nat.lt_succ_of_lt (Nat.lt_succ_self _)) (Nat.le_refl _)
  refine wpAny_BinOp ?_
  refine callGl (id := "math.fsum") (by with_unfolding_all rfl) G B₄ rfl rfl (items1 (evL F₄ rfl ?_))
  refine fsum_call R₁.hd hb4 h2 (by omega) fun s₅ f2 t5 hf2 S₅ => ?_
  refine evL (F₄.mono S₅.kp) rfl (divFN R₁.hd (by omega) (by omega) fun tY tk => ⟨_, F₄.mono S₅.kp, fun s₆ F₆ S₆ => ?_⟩)
  have S₆ : Sm (Inter s.heap.objs.size 2) s₅ s₆ := S₆
  have S46 := S₅.any.trans S₆
  have B₆ : Bk H₀ s₆.heap := B₄.monoX S46.k fun b hb => frame_new B hb.1
  have ha6 := ha4.keep (F₄.keepS S46.k)
  have hb6 := hb4.keep (F₄.keepS S46.k)
  have S16 : Sm (Inter s.heap.objs.size 2) s₁ s₆ := (S₂.trans S24).trans S46
  refine wpAny_execs_cons ?_
  refine asF H₀ 2 ?_
  refine callGl (id := "math.sumprod") (by with_unfolding_all rfl) G B₆ rfl rfl (items2 ?_)
  have cellx : s₆.heap.IsCell (s.heap.objs.size + 1) (some (.float (Float64.div f1 (Float64.ofInt (ns.length : Int))) tX)) := by
    obtain ⟨ov, I, q⟩ := F₆.cl (Str.ofString "xbar") (s.heap.objs.size + 1) rfl rfl (Nat.lt_succ_self _) (Nat.le_succ _)
    rwa [q _ rfl] at I
  have celly6 : s₆.heap.IsCell (s.heap.objs.size + 2) (some (.float (Float64.div f2 (Float64.ofInt (ns.length : Int))) tY)) := by
    obtain ⟨ov, I, q⟩ := F₆.cl (Str.ofString "ybar") (s.heap.objs.size + 2) rfl rfl (Nat.lt_succ_of_lt (Nat.lt_succ_self _)) (Nat.le_refl _)
    rwa [q _ rfl] at I
  have c1 := sum01 ns h1
  have c2 := sum01 ms h2
  have room : A₁.depth < recursionLimit := by have := R₁.dp; omega
  with_reducible refine gen_new R₁.hd room G B₆ ?_ ?_ ?_ ha6 h1 cellx ?_ ?_ ?_ ?_ ?_ ?_ ?_ ?_ ?_ ?_ ?_ ?_ ?_ (cl := [(Str.ofString "xbar", s.heap.objs.size + 1)])
  · rfl
  · rfl
  · exact .loc F₆ rfl
  · rfl
  · with_unfolding_all rfl
  · decide
  · rfl
  · rfl
  · rfl
  · rfl
  · rfl
  · exact fun _ => rfl
  · decide
  · decide
  · decide
  intro a1 C1 I1 s₇ N1
  have F₇ := F₆.monoX N1.k fun b hb e => (F₆.off b hb).2 e
  have hb7 := hb6.keep (keepS79 B₆ N1.k)
  have celly7 : s₇.heap.IsCell (s.heap.objs.size + 2) (some (.float (Float64.div f2 (Float64.ofInt (ns.length : Int))) tY)) := by
    obtain ⟨ov, I, q⟩ := F₇.cl (Str.ofString "ybar") (s.heap.objs.size + 2) rfl rfl (Nat.lt_succ_of_lt (Nat.lt_succ_self _)) (Nat.le_refl _)
    rwa [q _ rfl] at I
  with_reducible refine gen_new R₁.hd room G N1.B ?_ ?_ ?_ hb7 h2 celly7 ?_ ?_ ?_ ?_ ?_ ?_ ?_ ?_ ?_ ?_ ?_ ?_ ?_ (cl := [(Str.ofString "ybar", s.heap.objs.size + 2)])
  · rfl
  · rfl
  · exact .loc F₇ rfl
  · rfl
  · with_unfolding_all rfl
  · decide
  · rfl
  · rfl
  · rfl
  · rfl
  · rfl
  · exact fun _ => rfl
  · decide
  · decide
  · decide
  intro a2 C2 I2 s₈ N2
  have hX := bar_FV hK c1 hf1
  have hY := bar_FV hK (by rw [← hlen]; exact c2) hf2
  have bar_le : ∀ {c : Nat}, c ≤ ns.length → ((c : Int) * K).natAbs ≤ 2 ^ 31 := fun {c} hc => by
    rcases hK with ⟨e, rfl⟩ | ⟨e, rfl⟩ <;> omega
  refine sumprod_call (s := s₆) R₁.hd G B₆ hlen (by omega) (by omega) hX hY (bar_le c1) (bar_le (by rw [← hlen]; exact c2)) h1 h2 (covP ns ms) (fun j n m hn hm => ?_) (fun j hj => ?_) ?_ ?_ ⟨_, cellx⟩ ⟨_, celly6⟩ N1 N2 fun s₉ x t hx kx xt ho hbr => ⟨_, F₆.monoX kx fun b hb e => (F₆.off b hb).2 e, fun s₁₀ F₁₀ S₁₀ => ?_⟩
  · have e1 : ns.getD j 0 = n := by rw [List.getD_eq_getElem?_getD, hn]; rfl
    have e2 : ms.getD j 0 = m := by rw [List.getD_eq_getElem?_getD, hm]; rfl
    unfold covP
    rw [e1, e2]
    exact (cov_num hK (h1 n (List.mem_of_getElem? hn)) (h2 m (List.mem_of_getElem? hm)) c1 (by rw [← hlen]; exact c2)).1
  · have e1 : ns[j]? = some ns[j] := List.getElem?_eq_getElem hj
    have e2 : ms[j]? = some (ms[j]'(by omega)) := List.getElem?_eq_getElem (by omega)
    unfold covP
    rw [List.getD_eq_getElem?_getD, List.getD_eq_getElem?_getD, e1, e2]
    exact (cov_num hK (h1 _ (List.mem_of_getElem? e1)) (h2 _ (List.mem_of_getElem? e2)) c1 (by rw [← hlen]; exact c2)).2
  · obtain ⟨vs, l, _⟩ := ha6; exact ⟨_, l⟩
  · obtain ⟨vs, l, _⟩ := hb6; exact ⟨_, l⟩
  refine wpAny_execs_cons (wpAny_Return_some (wpAny_BinOp (evL F₁₀ rfl ?_)))
  refine EvZ.run (EvZ.cast (EvZ.sub (.loc F₁₀ rfl) (.kz 1)) (show _ = ((ns.length - 1 : Nat) : Int) by omega)) fun tk t => divFN R₁.hd (by omega) (by omega) fun t tk => h _ _ _ hx ?_ ?_ ?_ ?_
  · have fresh : ∀ b, Inter s.heap.objs.size 2 b → s.heap.get? b = none := fun b hb => Heap.get?_none_of_le hb.1
    intro b o nb e
    have nI : ¬ Inter s.heap.objs.size 2 b := fun hb => by rw [fresh b hb] at e; cases e
    exact S₁₀.k b o nI (kx b o nb (S16.k b o nI (S.kp b o e)))
  · have n79 : ¬ Inter s.heap.objs.size 2 79 := fun hb => (frame_new B hb.1).2 rfl
    exact ((ExtT.of_get fun o e => S.kp _ _ e).trans (.of_get fun o e => S16.k _ _ n79 e)).trans (xt.trans (.of_get fun o e => S₁₀.k _ _ n79 e))
  · exact S₁₀.o.trans (ho.trans (S16.o.trans S.o))
  · intro hy y hm
    have e1 : s₁₀.gens = s₉.gens := S₁₀.g
    have e2 : s₆.gens = s.gens := S16.g.trans S.g
    refine hbr (by rw [e2]; exact hy) y ?_
    rw [← e1]; exact hm
end
end Mine
end
/-! text L11 -/
section
open PySem PySem.Calls PySem.W PyProof.Rows
namespace Mine
section
variable {w : World} {A : Around} {E : Value → Shared → Prop} {s₀ s : Shared} {H₀ : Heap} {env : Env} {elt target : Expr} {x : Str} {px : Pos} {scope : Scope} {cl : List (Str × Addr)} {ifs : List Expr}
theorem go_list {a : Addr} {vs : List Value} {Fin : Addr → (Nat → Value → Heap → Prop) → (Nat → Bool) → Nat → Prop} (hh : A.handled = none) (hl : s.heap.IsList a vs.toArray) (hlen : vs.length ≤ 1000) (S0 : Sm No s₀ s) (p : Nat → Bool) (Fl : Nat → Value → Heap → Prop)
    (turn : ∀ C i v s₃, vs[i]? = some v → (∀ b, Inter C (ncells scope) b → s₀.heap.get? b = none) → Frm H₀ (cenvK scope cl C env) (ncells scope) s₃.heap [] → Keep s₀.heap s₃.heap → Bk H₀ s₃.heap →
      wpAny (model Prg w) A (assign target (cenvK scope cl C env) v) (fun _ s₄ => wpAny (model Prg w) A (Tests (cenvK scope cl C env) ifs) (fun ok s₅ => ok = p i ∧
        (if p i then wpAny (model Prg w) A (eval elt (cenvK scope cl C env)) (fun y s₆ => Sm (Inter C (ncells scope)) s₃ s₆ ∧ (∃ vals, Frm H₀ (cenvK scope cl C env) (ncells scope) s₆.heap vals) ∧ ∀ h', NewK s₃.heap s₆.heap h' → Fl i y h') (fun _ _ => False) s₅
         else Sm (Inter C (ncells scope)) s₃ s₅ ∧ ∃ vals, Frm H₀ (cenvK scope cl C env) (ncells scope) s₅.heap vals)) (fun _ _ => False) s₄) (fun _ _ => False) s₃)
    (fin : ∀ D, Fin D Fl p vs.length) :
    wpAny (model Prg w) A (pyIter (.ref a)) (CompGo w A H₀ env elt target ifs scope cl s₀ Fin) E s := by
  have hlen' : vs.toArray.size = vs.length := List.size_toArray
  refine iter_list hl fun I s₂ hI hne st hl₂ S2 => ?_
  refine ⟨I, [I, a], [I], vs.toArray.size, _, _, p, Fl, rfl, Src.listT hh I a hne vs.toArray, by rw [hlen']; exact hlen, ⟨st, hl₂⟩, sm_trans S0 S2, mem1 (none_of_keep S0.kp hI), ?_, by rw [hlen']; exact fin⟩
  intro C i v s₃ hi nC hv F S3 B
  exact turn C i v s₃ (by simpa using hv) (fun b hb => none_of_keep (sm_trans S0 S2).kp (nC b hb)) F S3.kp B
theorem go_range {r : Addr} {lo hi : Int} {t u v : Tok} {n : Nat} {Fin : Addr → (Nat → Value → Heap → Prop) → (Nat → Bool) → Nat → Prop} (hh : A.handled = none) (hr : IsRange s.heap r lo hi 1 t u v) (hsm : Builtin.Range.small lo hi 1 = true) (hsz : Builtin.Range.rangeSize lo hi 1 = (n : Int)) (hn : n ≤ 1000) (S0 : Sm No s₀ s) (p : Nat → Bool) (Fl : Nat → Value → Heap → Prop)
    (turn : ∀ C i t s₃, i < n → (∀ b, Inter C (ncells scope) b → s₀.heap.get? b = none) → Frm H₀ (cenvK scope cl C env) (ncells scope) s₃.heap [] → Keep s₀.heap s₃.heap → Bk H₀ s₃.heap →
      wpAny (model Prg w) A (assign (.Name x px) (cenvK scope cl C env) (.int (lo + (i : Int)) t)) (fun _ s₄ => wpAny (model Prg w) A (Tests (cenvK scope cl C env) ifs) (fun ok s₅ => ok = p i ∧
        (if p i then wpAny (model Prg w) A (eval elt (cenvK scope cl C env)) (fun y s₆ => Sm (Inter C (ncells scope)) s₃ s₆ ∧ (∃ vals, Frm H₀ (cenvK scope cl C env) (ncells scope) s₆.heap vals) ∧ ∀ h', NewK s₃.heap s₆.heap h' → Fl i y h') (fun _ _ => False) s₅
         else Sm (Inter C (ncells scope)) s₃ s₅ ∧ ∃ vals, Frm H₀ (cenvK scope cl C env) (ncells scope) s₅.heap vals)) (fun _ _ => False) s₄) (fun _ _ => False) s₃)
    (fin : ∀ D, Fin D Fl p n) :
    wpAny (model Prg w) A (pyIter (.ref r)) (CompGo w A H₀ env elt (.Name x px) ifs scope cl s₀ Fin) E s := by
  refine iter_range hr hsm hsz fun I s₂ hI st S2 => ?_
  refine ⟨I, [I], [I], n, _, _, p, Fl, rfl, src_range hh I lo 1 n, hn, st, sm_trans S0 S2, mem1 (none_of_keep S0.kp hI), ?_, fin⟩
  rintro C i v s₃ hi nC ⟨t, rfl⟩ F S3 B
  rw [Int.mul_one]
  exact turn C i t s₃ hi (fun b hb => none_of_keep (sm_trans S0 S2).kp (nC b hb)) F S3.kp B
theorem newK_of {h₃ h₄ h₆ h' : Heap} {k : Nat} {vals : List (Str × Value)} (F₄ : Frm H₀ env k h₄ vals) (k4 : KeepX (Inter env.locals k) h₃ h₄) (q : NewK h₃ h₆ h') : NewK h₄ h₆ h' := fun b o e1 e2 => q b o (none_of_keepX k4 (F₄.notNew e1) e1) e2
theorem made_natsAt {g : Nat → Nat} {p : Nat → Bool} {n : Nat} {h h₁ h' : Heap} {D : Addr} (m : Made (fun i v _ => IsN v (g i)) p n h h₁ D) (q : NewK h h₁ h') : IsNats h' D (((List.range n).filter p).map g) := by
  obtain ⟨ys, hl, f⟩ := m h' q
  exact ⟨ys, hl, F2.flip (f2_map (R := fun a c => IsN c a) f)⟩
theorem made_rows {g : Nat → List Nat} {p : Nat → Bool} {n : Nat} {h h₁ : Heap} {D : Addr} (m : Made (fun i v h' => ∃ b, v = .ref b ∧ IsNats h' b (g i)) p n h h₁ D) : IsRows h₁ D (((List.range n).filter p).map g) := by
  obtain ⟨ys, hl, f⟩ := made_here m
  exact ⟨ys, hl, F2.flip (f2_map (R := fun a c => ∃ b, c = Value.ref b ∧ IsNats h₁ b a) f)⟩
theorem made_trips {g : Nat → Nat × Nat × Nat} {p : Nat → Bool} {n : Nat} {h h₁ : Heap} {D : Addr}
    (m : Made (fun i v h' => ∃ b t1 t2 t3, v = .ref b ∧ h'.IsTuple b #[.int ((g i).1 : Int) t1, .int ((g i).2.1 : Int) t2, .int ((g i).2.2 : Int) t3]) p n h h₁ D) : IsTrips h₁ D (((List.range n).filter p).map g) := by
  obtain ⟨ys, hl, f⟩ := made_here m
  exact ⟨ys, hl, F2.flip (f2_map (R := fun (a : Nat × Nat × Nat) c => ∃ b t1 t2 t3, c = Value.ref b ∧ h₁.IsTuple b #[.int (a.1 : Int) t1, .int (a.2.1 : Int) t2, .int (a.2.2 : Int) t3]) f)⟩
theorem size_one_nat (n : Nat) : Builtin.Range.rangeSize 1 (n : Int) 1 = ((n - 1 : Nat) : Int) := by rw [rangeSize_one]; split <;> omega
theorem small_one_nat {n : Nat} (h : n < 2 ^ 62) : Builtin.Range.small 1 (n : Int) 1 = true := small_one (by omega) (by omega) (by omega) (by omega)
end
theorem lt_off (L j : Nat) (h : 0 < j) : @LT.lt Nat _ L (L + j) := by omega
theorem le_off (L j k : Nat) (h : j ≤ k) : @LE.le Nat _ (L + j) (L + k) := by omega
theorem keepF {X : Addr → Prop} {h h' h'' : Heap} (k : Keep h h') (k' : KeepX X h' h'') (n : ∀ b, X b → h.get? b = none) : Keep h h'' := fun b o e => k' b o (fun hb => by rw [n b hb] at e; cases e) (k b o e)
theorem cl1 {h : Heap} {x : Str} {c : Addr} {u : Option Value} (I : h.IsCell c u) : ∀ y d, (y, d) ∈ [(x, c)] → ∃ o, h.get? d = some o := fun y d hm => by
  have e : d = c := (Prod.mk.inj (List.mem_singleton.mp hm)).2
  obtain ⟨o, e', _⟩ := I
  exact ⟨o, e ▸ e'⟩
theorem clc {h : Heap} {x : Str} {c : Addr} {u : Option Value} {r : List (Str × Addr)} (I : h.IsCell c u) (t : ∀ y d, (y, d) ∈ r → ∃ o, h.get? d = some o) : ∀ y d, (y, d) ∈ (x, c) :: r → ∃ o, h.get? d = some o := fun y d hm => by
  rcases List.mem_cons.mp hm with e | hm
  · obtain ⟨o, e', _⟩ := I
    exact ⟨o, (Prod.mk.inj e).2 ▸ e'⟩
  · exact t y d hm
theorem fsi_sub {a b : Expr} {p : Pos} {env : Env} (x : Value) : foldedSetIterable (.Subscript a b p) env x = pure x := by rfl
theorem EvT.eqN {w : World} {A : Around} {s : Shared} {env : Env} {l r : Expr} {pos : Pos} {a b : Nat} (h1 : EvZ w A s env l (a : Int)) (h2 : EvZ w A s env r (b : Int)) (hm : behindInMarks .Eq r = false := by with_unfolding_all rfl) : EvT w A s env (.Compare l [.Eq] [r] pos) (decide (a = b)) := by
  have := EvT.eq (pos := pos) h1 h2 hm
  rwa [show decide ((a : Int) = (b : Int)) = decide (a = b) from decide_eq_decide.mpr (by omega)] at this
theorem EvT.neN {w : World} {A : Around} {s : Shared} {env : Env} {l r : Expr} {pos : Pos} {a b : Nat} (h1 : EvZ w A s env l (a : Int)) (h2 : EvZ w A s env r (b : Int)) (hm : behindInMarks .NotEq r = false := by with_unfolding_all rfl) : EvT w A s env (.Compare l [.NotEq] [r] pos) (decide (a ≠ b)) := by
  have := EvT.ne (pos := pos) h1 h2 hm
  rwa [show decide ((a : Int) ≠ (b : Int)) = decide (a ≠ b) from decide_eq_decide.mpr (by omega)] at this
/-- lists compared -/
theorem eqL {w : World} {A : Around} {E Q : Value → Shared → Prop} {s : Shared} {a b : Addr} {ns ms : List Nat} (ha : IsNats s.heap a ns) (hb : IsNats s.heap b ms) (hu : A.units + 64 < cLine) (h : Q (.bool (decide (ns = ms))) s) : wpAny (model Prg w) A (compareOp .Eq (.ref a) (.ref b)) Q E s := by
  obtain ⟨vs, l, f⟩ := ha
  obtain ⟨us, l', f'⟩ := hb
  refine eq_intsK l (ints_of_nats f) l' (ints_of_nats f') hu ?_
  rwa [show decide (ns.map Int.ofNat = ms.map Int.ofNat) = decide (ns = ms) from decide_eq_decide.mpr ⟨fun e => List.map_inj_right (fun x y q => Int.ofNat.inj q) |>.mp e, fun e => e ▸ rfl⟩]
theorem neL {w : World} {A : Around} {E Q : Value → Shared → Prop} {s : Shared} {a b : Addr} {ns ms : List Nat} (ha : IsNats s.heap a ns) (hb : IsNats s.heap b ms) (hu : A.units + 64 < cLine) (h : Q (.bool (!decide (ns = ms))) s) : wpAny (model Prg w) A (compareOp .NotEq (.ref a) (.ref b)) Q E s := by
  obtain ⟨vs, l, f⟩ := ha
  obtain ⟨us, l', f'⟩ := hb
  refine ne_intsK l (ints_of_nats f) l' (ints_of_nats f') hu ?_
  rwa [show decide (ns.map Int.ofNat = ms.map Int.ofNat) = decide (ns = ms) from decide_eq_decide.mpr ⟨fun e => List.map_inj_right (fun x y q => Int.ofNat.inj q) |>.mp e, fun e => e ▸ rfl⟩]
/-- a test of one clause -/
theorem tests1 {w : World} {A : Around} {E : Value → Shared → Prop} {s : Shared} {env : Env} {c : Expr} {b : Bool} {Q : Bool → Shared → Prop} (h : EvT w A s env c b) (q : ∀ tk, Q b { s with toks := tk }) : wpAny (model Prg w) A (Tests env [c]) Q E s :=
  wpAny_tests_one (h.run q)
section
variable {w : World} {A : Around} {E : Value → Shared → Prop} {s₀ s : Shared} {H₀ : Heap} {env : Env} {elt : Expr} {x : Str} {px : Pos} {scope : Scope} {cl : List (Str × Addr)} {c : Expr}
/-- along a range, an int an element -/
theorem go_rangeN {r : Addr} (lo : Nat) {hi : Int} {t u v : Tok} {n : Nat} {Fin : Addr → (Nat → Value → Heap → Prop) → (Nat → Bool) → Nat → Prop} (hh : A.handled = none) (hr : IsRange s.heap r (lo : Int) hi 1 t u v) (hsm : Builtin.Range.small (lo : Int) hi 1 = true) (hsz : Builtin.Range.rangeSize (lo : Int) hi 1 = (n : Int)) (hn : n ≤ 1000) (S0 : Sm No s₀ s)
    (ox : scope.names.lookup x = some .local) (g : Nat → Nat)
    (turn : ∀ C s₃ i t, i < n → Frm H₀ (cenvK scope cl C env) (ncells scope) s₃.heap [(x, .int ((lo + i : Nat) : Int) t)] → Keep s₀.heap s₃.heap → Bk H₀ s₃.heap → EvZ w A s₃ (cenvK scope cl C env) elt ((g i : Nat) : Int))
    (fin : ∀ D, Fin D (fun i v _ => IsN v (g i)) (fun _ => true) n) :
    wpAny (model Prg w) A (pyIter (.ref r)) (CompGo w A H₀ env elt (.Name x px) [] scope cl s₀ Fin) E s := by
  refine go_range hh hr hsm hsz hn S0 (fun _ => true) _ (fun C i t s₃ hi nC F₃ k₃ B₃ => ?_) fin
  rw [← Int.natCast_add]
  refine asgN F₃ (.inl (lookup_relabel_local ox)) fun s₄ F₄ S₄ => ?_
  refine wpAny_tests_nil ⟨rfl, ?_⟩
  simp only [if_true]
  exact (turn C s₄ i t hi F₄ (keepF k₃ S₄.k nC) (B₃.monoX S₄.k F₃.off)).run fun tk t => ⟨S₄, ⟨_, F₄⟩, fun h' _ => ⟨_, rfl⟩⟩
theorem go_rangeT {r : Addr} (lo : Nat) {hi : Int} {t u v : Tok} {n : Nat} {Fin : Addr → (Nat → Value → Heap → Prop) → (Nat → Bool) → Nat → Prop} (hh : A.handled = none) (hr : IsRange s.heap r (lo : Int) hi 1 t u v) (hsm : Builtin.Range.small (lo : Int) hi 1 = true) (hsz : Builtin.Range.rangeSize (lo : Int) hi 1 = (n : Int)) (hn : n ≤ 1000) (S0 : Sm No s₀ s)
    (ox : scope.names.lookup x = some .local) (p : Nat → Bool) (g : Nat → Nat)
    (turn : ∀ C s₃ i t, i < n → Frm H₀ (cenvK scope cl C env) (ncells scope) s₃.heap [(x, .int ((lo + i : Nat) : Int) t)] → Keep s₀.heap s₃.heap → Bk H₀ s₃.heap → EvT w A s₃ (cenvK scope cl C env) c (p i) ∧ EvZ w A s₃ (cenvK scope cl C env) elt ((g i : Nat) : Int))
    (fin : ∀ D, Fin D (fun i v _ => IsN v (g i)) p n) :
    wpAny (model Prg w) A (pyIter (.ref r)) (CompGo w A H₀ env elt (.Name x px) [c] scope cl s₀ Fin) E s := by
  refine go_range hh hr hsm hsz hn S0 p _ (fun C i t s₃ hi nC F₃ k₃ B₃ => ?_) fin
  rw [← Int.natCast_add]
  refine asgN F₃ (.inl (lookup_relabel_local ox)) fun s₄ F₄ S₄ => ?_
  obtain ⟨h1, h2⟩ := turn C s₄ i t hi F₄ (keepF k₃ S₄.k nC) (B₃.monoX S₄.k F₃.off)
  refine tests1 h1 fun tk => ⟨rfl, ?_⟩
  split
  · exact h2 tk _ _ fun tk t => ⟨S₄, ⟨_, F₄⟩, fun h' _ => ⟨_, rfl⟩⟩
  · exact ⟨S₄, ⟨_, F₄⟩⟩
/-- along a list of triples, an int an element -/
theorem go_tripsN {y z : Str} {py pz pt : Pos} {j : Nat} {a : Addr} {ts : List (Nat × Nat × Nat)} {Fin : Addr → (Nat → Value → Heap → Prop) → (Nat → Bool) → Nat → Prop} (hh : A.handled = none) (ha : IsTrips s₀.heap a ts) (hlen : ts.length ≤ 1000) (S0 : Sm No s₀ s)
    (ox : scope.names.lookup x = some .local) (oy : scope.names.lookup y = some .local) (oz : scope.names.lookup z = some .local) (g : Nat × Nat × Nat → Nat)
    (turn : ∀ C s₃ t t1 t2 t3, t ∈ ts → Frm H₀ (cenvK scope cl C env) (ncells scope) s₃.heap [(z, .int (t.2.2 : Int) t3), (y, .int (t.2.1 : Int) t2), (x, .int (t.1 : Int) t1)] → Keep s₀.heap s₃.heap → Bk H₀ s₃.heap → EvZ w A s₃ (cenvK scope cl C env) elt ((g t : Nat) : Int))
    (fin : ∀ D, Fin D (fun i v _ => IsN v (g (ts.getD i (0, 0, 0)))) (fun _ => true) ts.length) :
    wpAny (model Prg w) A (pyIter (.ref a)) (CompGo w A H₀ env elt (.Tuple [.Name x px, .Name y py, .Name z pz] j pt) [] scope cl s₀ Fin) E s := by
  obtain ⟨vs, hl, f⟩ := ha
  refine go_list hh (islist_keep hl S0.kp.toS) (by rw [f.length]; exact hlen) S0 (fun _ => true) _ (fun C i v s₃ hv nC F₃ k₃ B₃ => ?_) (by rw [f.length]; exact fin)
  obtain ⟨t, ht, b, t1, t2, t3, rfl, hb⟩ := f.get' hv
  refine asgT3 hh F₃ (istup_keep hb k₃.toS) (.inl (lookup_relabel_local ox)) (.inl (lookup_relabel_local oy)) (.inl (lookup_relabel_local oz)) fun s₄ F₄ S₄ => ?_
  refine wpAny_tests_nil ⟨rfl, ?_⟩
  simp only [if_true]
  have e : ts.getD i (0, 0, 0) = t := by rw [List.getD_eq_getElem?_getD, ht]; rfl
  rw [e]
  exact (turn C s₄ t t1 t2 t3 (List.mem_of_getElem? ht) F₄ (keepF k₃ S₄.k nC) (B₃.monoX S₄.k F₃.off)).run fun tk t => ⟨S₄, ⟨_, F₄⟩, fun h' _ => ⟨_, rfl⟩⟩
end
end Mine
end
/-! text D13 -/
section
open PySem PySem.Calls PySem.W PyProof.Rows
namespace Mine
def g2 (rows : List (List Nat)) (j k : Nat) : Nat := (rows.getD j []).getD k 0
def oddRows (ws made : List Nat) : List (List Nat) := ws.map fun wd => made.map fun m => oddN (wd &&& m)
def diagN (rows : List (List Nat)) (n : Nat) : List Nat := (List.range n).map fun k => g2 rows k k
def symN (rows : List (List Nat)) (n : Nat) : List (List Nat) := (List.range n).map fun j => (List.range n).map fun k => g2 rows j k ^^^ g2 rows k j
def Sq (rows : List (List Nat)) (n : Nat) : Prop := rows.length = n ∧ ∀ r ∈ rows, r.length = n
theorem Sq.row {rows : List (List Nat)} {n j : Nat} (h : Sq rows n) (hj : j < n) : ∃ r, rows[j]? = some r ∧ r.length = n ∧ r = rows.getD j [] := by
  have hl : j < rows.length := by rw [h.1]; exact hj
  refine ⟨rows[j], List.getElem?_eq_getElem hl, h.2 _ (List.getElem_mem hl), ?_⟩
  rw [List.getD_eq_getElem?_getD, List.getElem?_eq_getElem hl]; rfl
theorem Sq.at {rows : List (List Nat)} {n j k : Nat} (h : Sq rows n) (hj : j < n) (hk : k < n) : ∃ r, rows[j]? = some r ∧ r[k]? = some (g2 rows j k) := by
  obtain ⟨r, e, hl, er⟩ := h.row hj
  refine ⟨r, e, ?_⟩
  unfold g2
  rw [← er, List.getD_eq_getElem?_getD, List.getElem?_eq_getElem (by omega)]; rfl
def matesN (n : Nat) (feel : List (List Nat)) : List Nat := (List.range n).filter fun k => decide (g2 feel 0 k = 1)
def leftN (n : Nat) (feel : List (List Nat)) (mate : Nat) : List (Nat × Nat × Nat) := ((List.range (n - 1)).filter fun i => decide (1 + i ≠ mate)).map fun i => (1 + i, g2 feel (1 + i) 0, g2 feel (1 + i) mate)
def markStep (marks : List Nat) (mate : Nat) (t : Nat × Nat × Nat) : Nat := ((marks.getD t.1 0 ^^^ (t.2.2 &&& marks.getD 0 0)) ^^^ (t.2.1 &&& marks.getD mate 0)) ^^^ (t.2.1 &&& t.2.2)
def feelStep (feel : List (List Nat)) (t u : Nat × Nat × Nat) : Nat := (g2 feel t.1 u.1 ^^^ (t.2.1 &&& u.2.2)) ^^^ (t.2.2 &&& u.2.1)
def leadN : Nat → List Nat → List (List Nat) → Int → Int
  | 0, _, _, l => l
  | f + 1, marks, feel, l => if marks = [] then l else match matesN marks.length feel with
    | [] => leadN f (marks.drop 1) ((feel.drop 1).map (List.drop 1)) (l * (2 - 2 * (marks.getD 0 0 : Nat)))
    | mate :: _ => leadN f ((leftN marks.length feel mate).map (markStep marks mate)) ((leftN marks.length feel mate).map fun t => (leftN marks.length feel mate).map (feelStep feel t)) (l * (2 - 4 * (marks.getD 0 0 : Nat) * (marks.getD mate 0 : Nat)))
theorem leadN_nil {f : Nat} {marks : List Nat} {feel : List (List Nat)} {l : Int} (h : marks ≠ []) (hm : matesN marks.length feel = []) :
    leadN (f + 1) marks feel l = leadN f (marks.drop 1) ((feel.drop 1).map (List.drop 1)) (l * (2 - 2 * (marks.getD 0 0 : Nat))) := by
  rw [leadN, if_neg h, hm]
theorem leadN_cons {f mate : Nat} {rest marks : List Nat} {feel : List (List Nat)} {l : Int} (h : marks ≠ []) (hm : matesN marks.length feel = mate :: rest) :
    leadN (f + 1) marks feel l = leadN f ((leftN marks.length feel mate).map (markStep marks mate)) ((leftN marks.length feel mate).map fun t => (leftN marks.length feel mate).map (feelStep feel t)) (l * (2 - 4 * (marks.getD 0 0 : Nat) * (marks.getD mate 0 : Nat))) := by
  rw [leadN, if_neg h, hm]
theorem leadN_end {f : Nat} {feel : List (List Nat)} {l : Int} : leadN f [] feel l = l := by
  cases f with
  | zero => rfl
  | succ f => rw [leadN, if_pos rfl]
def Bits (l : List Nat) : Prop := ∀ x ∈ l, x ≤ 1
theorem Bits.at {l : List Nat} (h : Bits l) (i : Nat) : l.getD i 0 ≤ 1 := by
  rw [List.getD_eq_getElem?_getD]
  cases e : l[i]? with
  | none => simp
  | some x => exact h x (List.mem_of_getElem? e)
theorem xor_bit {a b : Nat} (ha : a ≤ 1) (hb : b ≤ 1) : a ^^^ b ≤ 1 := by
  have e : a = 0 ∨ a = 1 := by omega
  have f : b = 0 ∨ b = 1 := by omega
  rcases e with rfl | rfl <;> rcases f with rfl | rfl <;> decide
theorem and_bit {a b : Nat} (ha : a ≤ 1) : a &&& b ≤ 1 := Nat.le_trans Nat.and_le_left ha
theorem g2_bit {rows : List (List Nat)} (h : ∀ r ∈ rows, Bits r) (j k : Nat) : g2 rows j k ≤ 1 := by
  unfold g2
  refine Bits.at ?_ k
  rw [List.getD_eq_getElem?_getD]
  cases e : rows[j]? with
  | none => intro x hx; simp at hx
  | some r => exact h r (List.mem_of_getElem? e)
theorem oddN_bit (n : Nat) : oddN n ≤ 1 := by
  unfold oddN
  exact Nat.and_le_right
theorem leftN_at {n mate : Nat} {feel : List (List Nat)} {t : Nat × Nat × Nat} (h : t ∈ leftN n feel mate) : 1 ≤ t.1 ∧ t.1 < n ∧ t.2.1 = g2 feel t.1 0 ∧ t.2.2 = g2 feel t.1 mate := by
  obtain ⟨i, hi, rfl⟩ := List.mem_map.mp h
  have := List.mem_range.mp (List.mem_filter.mp hi).1
  exact ⟨Nat.le_add_right _ _, by show 1 + i < n; omega, rfl, rfl⟩
section
variable {w : World} {A : Around} {E : Value → Shared → Prop} {s : Shared} {H₀ : Heap} {mg mb : Str → Option Value} {env : Env} {l r r2 : Expr} {pos pos2 : Pos}
/-- an item of an item of a square -/
theorem EvZ.sq {lst : Addr} {rows : List (List Nat)} {n i j : Nat} (h : EvV w A s env l (.ref lst)) (hl : IsRows s.heap lst rows) (q : Sq rows n) (hi : EvZ w A s env r (i : Int)) (hj : EvZ w A s env r2 (j : Int)) (li : i < n) (lj : j < n) (hn : n ≤ 1000)
    (hs : ∀ lst u, subscripted r false (.ref lst) (.int (i : Int) u) = operate [.ref lst, .int (i : Int) u] (getItem (.ref lst) (.int (i : Int) u)) := by intro _ _; with_unfolding_all rfl)
    (hs2 : ∀ lst u, subscripted r2 false (.ref lst) (.int (j : Int) u) = operate [.ref lst, .int (j : Int) u] (getItem (.ref lst) (.int (j : Int) u)) := by intro _ _; with_unfolding_all rfl) :
    EvZ w A s env (.Subscript (.Subscript l r pos) r2 pos2) ((g2 rows i j : Nat) : Int) := by
  obtain ⟨row, e1, e2⟩ := q.at li lj
  exact EvZ.item2 h hl hi e1 (by omega) hj e2 (by omega) hs hs2
theorem EvZ.nth {lst : Addr} {ns : List Nat} {i : Nat} (h : EvV w A s env l (.ref lst)) (hl : IsNats s.heap lst ns) (hi : EvZ w A s env r (i : Int)) (li : i < ns.length) (hn : ns.length ≤ 1000)
    (hs : ∀ u, subscripted r false (.ref lst) (.int (i : Int) u) = operate [.ref lst, .int (i : Int) u] (getItem (.ref lst) (.int (i : Int) u)) := by intro _; with_unfolding_all rfl) :
    EvZ w A s env (.Subscript l r pos) ((ns.getD i 0 : Nat) : Int) :=
  EvZ.item h hl hi (by rw [List.getD_eq_getElem?_getD, List.getElem?_eq_getElem li]; rfl) (by omega) hs

theorem lead_spec {a b : Addr} {ws made : List Nat} {Q : Value → Shared → Prop} (G : Gx w H₀ mg mb) (B : Bk H₀ s.heap) (R : Rm A 6) (ha : IsNats s.heap a ws) (hb : IsNats s.heap b made) (hlen : made.length = ws.length) (hn : ws.length ≤ 5)
    (h : ∀ t s', Sm No s s' → Q (.int (leadN ws.length (diagN (oddRows ws made) ws.length) (symN (oddRows ws made) ws.length) 1) t) s') : wpAny (model Prg w) A (call (.ref 122) [.ref a, .ref b]) Q E s := by
  refine call_own (args := ⟨[.ref a, .ref b], []⟩) (binds := [(Str.ofString "words", .ref a), (Str.ofString "made", .ref b)]) (nms := [Str.ofString "words", Str.ofString "made"]) G B R (by with_unfolding_all rfl) (by with_unfolding_all rfl) (BindsTo.of_eq rfl) rfl rfl (by decide) (by decide) rfl rfl rfl ?_
  intro s₁ F S B₁ R₁
  generalize Around.deeper A _ = A₁ at R₁ ⊢
  have ha1 := ha.keep S.kp.toS
  have hb1 := hb.keep S.kp.toS
  refine wpAny_execs_cons ?_
  have hcellW : s₁.heap.IsCell (s.heap.objs.size + 1) (some (.ref a)) := by
    obtain ⟨ov, I, q⟩ := F.cl (Str.ofString "words") (s.heap.objs.size + 1) rfl rfl (lt_off _ _ (by decide)) (le_off _ _ _ (by decide))
    rwa [q _ rfl] at I
  have hcellM : s₁.heap.IsCell (s.heap.objs.size + 2) (some (.ref b)) := by
    obtain ⟨ov, I, q⟩ := F.cl (Str.ofString "made") (s.heap.objs.size + 2) rfl rfl (lt_off _ _ (by decide)) (le_off _ _ _ (by decide))
    rwa [q _ rfl] at I
  refine asC (k := 7) (H₀ := H₀) (c := s.heap.objs.size + 3) ?_ rfl rfl (lt_off _ _ (by decide)) (le_off _ _ _ (by decide))
  refine evComp (cl := [(Str.ofString "made", s.heap.objs.size + 2)]) fsi_name (by with_unfolding_all rfl) rfl (by decide) (by decide) ?_ rfl rfl B₁ ?_
  · intro y d hm
    have e : d = s.heap.objs.size + 2 := (Prod.mk.inj (List.mem_singleton.mp hm)).2
    obtain ⟨o, e', _⟩ := hcellM
    exact ⟨o, e ▸ e'⟩
  refine evO rfl hcellW ?_ rfl rfl
  obtain ⟨vs, hl, f⟩ := id ha1
  have hvl : vs.length = ws.length := f.length
  refine go_list R₁.hd hl (by omega) (Sm.refl _ _) (fun _ => true) (fun i v h' => ∃ d, v = .ref d ∧ IsNats h' d (made.map fun m => oddN (ws.getD i 0 &&& m))) (fun C i v s₂ hv nC F₂ k₂ B₂ => ?_) fun D s₂ nD S₂ m => ?_
  · obtain ⟨n, hn', t, rfl⟩ := f.get' hv
    have en : ws.getD i 0 = n := by rw [List.getD_eq_getElem?_getD, hn']; rfl
    rw [en]
    refine asgN F₂ (.inr ⟨rfl, C + 1, rfl, Nat.lt_succ_self _, Nat.le_refl _⟩) fun s₃ F₃ S₃ => ?_
    refine wpAny_tests_nil ⟨rfl, ?_⟩
    simp only [if_true]
    have k13 : Keep s₁.heap s₃.heap := keepF k₂ S₃.k nC
    have B₃ : Bk H₀ s₃.heap := B₁.mono k13
    have cellw : s₃.heap.IsCell (C + 1) (some (.int (n : Int) t)) := by
      obtain ⟨ov, I, q⟩ := F₃.cl (Str.ofString "word") (C + 1) rfl rfl (Nat.lt_succ_self _) (Nat.le_refl _)
      rwa [q _ rfl] at I
    refine evComp (cl := [(Str.ofString "word", C + 1)]) fsi_name (by with_unfolding_all rfl) rfl (by decide) (by decide) ?_ rfl rfl B₃ ?_
    · intro y d hm
      have e : d = C + 1 := (Prod.mk.inj (List.mem_singleton.mp hm)).2
      obtain ⟨o, e', _⟩ := cellw
      exact ⟨o, e ▸ e'⟩
    refine evO rfl (hcellM.keeps k13) ?_ rfl rfl
    refine go_nats R₁.hd (hb1.keep k13.toS) (by omega) (Sm.refl _ _) rfl (fun m => oddN (n &&& m)) (fun C2 s₄ m tm hm nC2 F₄ k₄ B₄ => ?_) fun D s₄ nD S₄ mk => ?_
    · refine callDf (a := 112) (by with_unfolding_all rfl) (by with_unfolding_all rfl) G B₄ rfl rfl (items1 ?_)
      refine (EvZ.and (.out rfl (cellw.keeps k₄) rfl rfl) (.loc F₄ rfl)).run fun tk t => ⟨B₄, odd_spec G B₄ (R₁.le (by decide)) fun v s' hv S' => ⟨hv, S'⟩⟩
    · refine ⟨S₃.trans S₄.any, ⟨_, F₃.mono S₄.kp⟩, fun h' nk => ⟨D, rfl, ?_⟩⟩
      have := made_natsAt (g := fun i => oddN (n &&& made.getD i 0)) mk (newK_of F₃ S₃.k nk)
      rw [filter_true, range_map_getD made 0 (fun m => oddN (n &&& m))] at this
      exact this
  have hodd2 : IsRows s₂.heap D (oddRows ws made) := by
    have := made_rows (g := fun i => made.map fun m => oddN (ws.getD i 0 &&& m)) m
    rw [filter_true, hvl, range_map_getD ws 0 (fun wd => made.map fun m => oddN (wd &&& m))] at this
    exact this
  have hsq : Sq (oddRows ws made) ws.length := ⟨by simp [oddRows], fun r hr => by
    obtain ⟨x, _, rfl⟩ := List.mem_map.mp hr
    rw [List.length_map, hlen]⟩
  have hbits : ∀ r ∈ oddRows ws made, Bits r := fun r hr x hx => by
    obtain ⟨y, _, rfl⟩ := List.mem_map.mp hr
    obtain ⟨z, _, rfl⟩ := List.mem_map.mp hx
    exact oddN_bit _
  refine ⟨_, F.mono S₂.kp, fun s₃ F₃ S₃ => ?_⟩
  have S13 : Sm (Inter s.heap.objs.size 7) s₁ s₃ := S₂.any.trans S₃
  have B₃ : Bk H₀ s₃.heap := B₁.monoX S13.k fun b hb => frame_new B hb.1
  have ha3 := ha1.keep (F.keepS S13.k)
  have hodd3 := hodd2.keep ((F.mono S₂.kp).keepS S₃.k)
  have cello : s₃.heap.IsCell (s.heap.objs.size + 3) (some (.ref D)) := by
    obtain ⟨ov, I, q⟩ := F₃.cl (Str.ofString "odd") (s.heap.objs.size + 3) rfl rfl (lt_off _ _ (by decide)) (le_off _ _ _ (by decide))
    rwa [q _ rfl] at I
  refine wpAny_execs_cons ?_
  refine asC (k := 7) (H₀ := H₀) (c := s.heap.objs.size + 4) ?_ rfl rfl (lt_off _ _ (by decide)) (le_off _ _ _ (by decide))
  refine evComp (cl := [(Str.ofString "odd", s.heap.objs.size + 3)]) fsi_call (by with_unfolding_all rfl) rfl (by decide) (by decide) ?_ rfl rfl B₃ ?_
  · intro y d hm
    have e : d = s.heap.objs.size + 3 := (Prod.mk.inj (List.mem_singleton.mp hm)).2
    obtain ⟨o, e', _⟩ := cello
    exact ⟨o, e ▸ e'⟩
  refine callT (by with_unfolding_all rfl) (by boot_fast) G B₃ rfl rfl rfl (items1 ?_)
  refine EvZ.run (EvZ.lenN G B₃ rfl rfl rfl (.cell F₃ rfl rfl rfl (lt_off _ _ (by decide)) (le_off _ _ _ (by decide))) ha3 (by omega)) fun tk t => ?_
  refine call_rg1 fun r s₄ t' u' v' nr hr S₄ => ?_
  refine go_rangeN 0 R₁.hd hr (small_nat (by omega)) (size_nat _) (by omega) (show Sm No s₃ s₄ from S₄) rfl (fun k => g2 (oddRows ws made) k k) (fun C s₅ i t hi F₅ k₅ B₅ => ?_) fun D2 s₅ nD2 S₅ m2 => ?_
  · have e0 : 0 + i = i := Nat.zero_add i
    rw [e0] at F₅
    exact EvZ.sq (.out rfl (cello.keeps k₅) rfl rfl) (hodd3.keep k₅.toS) hsq (.loc F₅ rfl) (.loc F₅ rfl) hi hi (by omega)
  have hmarks5 : IsNats s₅.heap D2 (diagN (oddRows ws made) ws.length) := by
    have := made_nats (g := fun k => g2 (oddRows ws made) k k) m2
    rw [filter_true] at this
    exact this
  refine ⟨_, F₃.mono S₅.kp, fun s₆ F₆ S₆ => ?_⟩
  have S36 : Sm (Inter s.heap.objs.size 7) s₃ s₆ := S₅.any.trans S₆
  have B₆ : Bk H₀ s₆.heap := B₃.monoX S36.k fun b hb => frame_new B hb.1
  have ha6 := ha3.keep (F₃.keepS S36.k)
  have hodd6 := hodd3.keep (F₃.keepS S36.k)
  have hmarks6 := hmarks5.keep ((F₃.mono S₅.kp).keepS S₆.k)
  have cello6 : s₆.heap.IsCell (s.heap.objs.size + 3) (some (.ref D)) := by
    obtain ⟨ov, I, q⟩ := F₆.cl (Str.ofString "odd") (s.heap.objs.size + 3) rfl rfl (lt_off _ _ (by decide)) (le_off _ _ _ (by decide))
    rwa [q _ rfl] at I
  have cellw6 : s₆.heap.IsCell (s.heap.objs.size + 1) (some (.ref a)) := by
    obtain ⟨ov, I, q⟩ := F₆.cl (Str.ofString "words") (s.heap.objs.size + 1) rfl rfl (lt_off _ _ (by decide)) (le_off _ _ _ (by decide))
    rwa [q _ rfl] at I
  refine wpAny_execs_cons ?_
  refine asC (k := 7) (H₀ := H₀) (c := s.heap.objs.size + 5) ?_ rfl rfl (lt_off _ _ (by decide)) (le_off _ _ _ (by decide))
  refine evComp (cl := [(Str.ofString "words", s.heap.objs.size + 1), (Str.ofString "odd", s.heap.objs.size + 3)]) fsi_call (by with_unfolding_all rfl) rfl (by decide) (by decide) (clc cellw6 (cl1 cello6)) rfl rfl B₆ ?_
  refine callT (by with_unfolding_all rfl) (by boot_fast) G B₆ rfl rfl rfl (items1 ?_)
  refine EvZ.run (EvZ.lenN G B₆ rfl rfl rfl (.out rfl cellw6 rfl rfl) ha6 (by omega)) fun tk t => ?_
  refine call_rg1 fun r s₇ t' u' v' nr hr S₇ => ?_
  refine go_range R₁.hd hr (small_nat (by omega)) (size_nat _) (by omega) (show Sm No s₆ s₇ from S₇) (fun _ => true) (fun j v h' => ∃ d, v = .ref d ∧ IsNats h' d ((List.range ws.length).map fun k => g2 (oddRows ws made) j k ^^^ g2 (oddRows ws made) k j)) (fun C j t s₈ hj nC F₈ k₈ B₈ => ?_) fun D3 s₈ nD3 S₈ m3 => ?_
  · rw [Int.zero_add]
    refine asgN F₈ (.inr ⟨rfl, C + 1, rfl, Nat.lt_succ_self _, Nat.le_refl _⟩) fun s₉ F₉ S₉ => ?_
    refine wpAny_tests_nil ⟨rfl, ?_⟩
    simp only [if_true]
    have k69 : Keep s₆.heap s₉.heap := keepF k₈ S₉.k nC
    have B₉ : Bk H₀ s₉.heap := B₆.mono k69
    have cellj : s₉.heap.IsCell (C + 1) (some (.int (j : Int) t)) := by
      obtain ⟨ov, I, q⟩ := F₉.cl (Str.ofString "j") (C + 1) rfl rfl (Nat.lt_succ_self _) (Nat.le_refl _)
      rwa [q _ rfl] at I
    refine evComp (cl := [(Str.ofString "odd", s.heap.objs.size + 3), (Str.ofString "j", C + 1)]) fsi_call (by with_unfolding_all rfl) rfl (by decide) (by decide) (clc (cello6.keeps k69) (cl1 cellj)) rfl rfl B₉ ?_
    refine callT (by with_unfolding_all rfl) (by boot_fast) G B₉ rfl rfl rfl (items1 ?_)
    refine EvZ.run (EvZ.lenN G B₉ rfl rfl rfl (.out rfl (cellw6.keeps k69) rfl rfl) (ha6.keep k69.toS) (by omega)) fun tk t => ?_
    refine call_rg1 fun r2 s₁₀ t'' u'' v'' nr2 hr2 S₁₀ => ?_
    refine go_rangeN 0 R₁.hd hr2 (small_nat (by omega)) (size_nat _) (by omega) (show Sm No s₉ s₁₀ from S₁₀) rfl (fun k => g2 (oddRows ws made) j k ^^^ g2 (oddRows ws made) k j) (fun C2 s₁₁ k tk' hk F₁₁ k₁₁ B₁₁ => ?_) fun D4 s₁₁ nD4 S₁₁ m4 => ?_
    · have e0 : 0 + k = k := Nat.zero_add k
      rw [e0] at F₁₁
      have o1 := hodd6.keep (k69.trans k₁₁).toS
      have c1 := cello6.keeps (k69.trans k₁₁)
      have cj := cellj.keeps k₁₁
      exact EvZ.xor (EvZ.sq (.out rfl c1 rfl rfl) o1 hsq (.out rfl cj rfl rfl) (.loc F₁₁ rfl) hj hk (by omega)) (EvZ.sq (.out rfl c1 rfl rfl) o1 hsq (.loc F₁₁ rfl) (.out rfl cj rfl rfl) hk hj (by omega))
    · refine ⟨S₉.trans S₁₁.any, ⟨_, F₉.mono S₁₁.kp⟩, fun h' nk => ⟨D4, rfl, ?_⟩⟩
      have := made_natsAt (g := fun k => g2 (oddRows ws made) j k ^^^ g2 (oddRows ws made) k j) m4 (newK_of F₉ S₉.k nk)
      rw [filter_true] at this
      exact this
  have hfeel8 : IsRows s₈.heap D3 (symN (oddRows ws made) ws.length) := by
    have := made_rows (g := fun j => (List.range ws.length).map fun k => g2 (oddRows ws made) j k ^^^ g2 (oddRows ws made) k j) m3
    rw [filter_true] at this
    exact this
  refine ⟨_, F₆.mono S₈.kp, fun s₉ F₉ S₉ => ?_⟩
  have S69 : Sm (Inter s.heap.objs.size 7) s₆ s₉ := S₈.any.trans S₉
  have B₉ : Bk H₀ s₉.heap := B₆.monoX S69.k fun b hb => frame_new B hb.1
  have hmarks9 := hmarks6.keep (F₆.keepS S69.k)
  have hfeel9 := hfeel8.keep ((F₆.mono S₈.kp).keepS S₉.k)
  refine wpAny_execs_cons (asZ F₉ (.kz 1) fun s₁₀ t₁₀ F₁₀ S₁₀ => ?_)
  have B₁₀ : Bk H₀ s₁₀.heap := B₉.monoX S₁₀.k fun b hb => frame_new B hb.1
  have hmarks10 := hmarks9.keep (F₉.keepS S₁₀.k)
  have hfeel10 := hfeel9.keep (F₉.keepS S₁₀.k)
  refine wpAny_execs_cons (wpAny_While ?_)
  refine codeAny_whileLoop (fun f s' => ∃ marks feel lead vals am af t, Frm H₀ (envOfC _ _ s.heap.objs.size 122 (.ref 121)) 7 s'.heap vals ∧ vals.lookup (Str.ofString "lead") = some (.int lead t) ∧ vals.lookup (Str.ofString "marks") = some (.ref am) ∧ vals.lookup (Str.ofString "feel") = some (.ref af) ∧
    IsNats s'.heap am marks ∧ IsRows s'.heap af feel ∧ Sq feel marks.length ∧ marks.length ≤ f ∧ f ≤ ws.length ∧ Bits marks ∧ (∀ r ∈ feel, Bits r) ∧ lead.natAbs * 2 ^ f ≤ 2 ^ 10 ∧ leadN f marks feel lead = leadN ws.length (diagN (oddRows ws made) ws.length) (symN (oddRows ws made) ws.length) 1 ∧ Sm (Inter s.heap.objs.size 7) s₁ s') ?_ ws.length ⟨_, _, _, _, _, _, _, F₁₀, rfl, rfl, rfl, hmarks10, hfeel10, ?_, ?_, Nat.le_refl _, ?_, ?_, ?_, rfl, ?_⟩
  rotate_left
  · unfold symN diagN
    refine ⟨by simp, fun r hr => ?_⟩
    obtain ⟨x, _, rfl⟩ := List.mem_map.mp hr
    simp
  · simp [diagN]
  · intro x hx
    obtain ⟨k, _, rfl⟩ := List.mem_map.mp hx
    exact g2_bit hbits _ _
  · intro r hr x hx
    obtain ⟨j, _, rfl⟩ := List.mem_map.mp hr
    obtain ⟨k, _, rfl⟩ := List.mem_map.mp hx
    exact xor_bit (g2_bit hbits _ _) (g2_bit hbits _ _)
  · have : 2 ^ ws.length ≤ 2 ^ 10 := Nat.pow_le_pow_right (by decide) (by omega)
    simpa using this
  · exact ((S13.trans S36).trans S69).trans S₁₀
  rintro f s₁₁ ⟨marks, feel, lead, vals, am, af, tl, F₁₁, vl, vm, vf, hm, hf, sq, hmf, hfw, bm, bf, bl, hfin, S₁₁⟩
  have B₁₁ : Bk H₀ s₁₁.heap := B₁.monoX S₁₁.k fun b hb => frame_new B hb.1
  have lead_le : lead.natAbs ≤ 2 ^ 10 := by
    have : 1 ≤ 2 ^ f := Nat.one_le_two_pow
    calc lead.natAbs = lead.natAbs * 1 := (Nat.mul_one _).symm
      _ ≤ lead.natAbs * 2 ^ f := Nat.mul_le_mul_left _ this
      _ ≤ 2 ^ 10 := bl
  have fle : marks.length ≤ 1000 := by omega
  refine wpAny_isTrue_Compare1 (evC F₁₁ vm ?_ rfl rfl (lt_off s.heap.objs.size 4 (by decide)) (le_off s.heap.objs.size 4 7 (by decide))) (by with_unfolding_all rfl)
  with_reducible refine list_ints (ns := []) ?_ ?_ ?_
  · exact .nil
  · decide
  intro e s₁₂ ne he S₁₂
  refine neL (hm.keep S₁₂.kp.toS) he (by have := R₁.un; omega) (wpAny_truthy_bool ?_)
  have F₁₂ := F₁₁.mono S₁₂.kp
  have B₁₂ := B₁₁.mono S₁₂.kp
  have hm12 := hm.keep S₁₂.kp.toS
  have hf12 := hf.keep S₁₂.kp.toS
  by_cases hnil : marks = []
  · subst hnil
    simp only [decide_true, Bool.not_true, Bool.false_eq_true, if_false]
    refine wpAny_execs_nil ?_
    have hl : lead = leadN ws.length (diagN (oddRows ws made) ws.length) (symN (oddRows ws made) ws.length) 1 := by
      rw [← hfin, leadN_end]
    refine wpAny_execs_cons (wpAny_Return_some (evL F₁₂ vl ?_))
    rw [hl]
    exact h _ _ (S.fresh (X := Inter s.heap.objs.size 7) (S₁₁.trans S₁₂.any) fun b hb => Heap.get?_none_of_le hb.1)
  have hpos : 0 < marks.length := List.length_pos_iff.mpr hnil
  rw [show (!decide (marks = [])) = true by simp [hnil]]
  simp only [if_true]
  have cellf : s₁₂.heap.IsCell (s.heap.objs.size + 5) (some (.ref af)) := by
    obtain ⟨ov, I, q⟩ := F₁₂.cl (Str.ofString "feel") (s.heap.objs.size + 5) rfl rfl (lt_off _ _ (by decide)) (le_off _ _ _ (by decide))
    rwa [q _ vf] at I
  refine wpAny_execs_cons ?_
  refine asComp (cl := [(Str.ofString "feel", s.heap.objs.size + 5)]) F₁₂ (by with_unfolding_all rfl) rfl fsi_call (by with_unfolding_all rfl) rfl (by decide) (by decide) (cl1 cellf) B₁₂ ?_
  refine callT (by with_unfolding_all rfl) (by boot_fast) G B₁₂ rfl rfl rfl (items1 ?_)
  refine EvZ.run (EvZ.lenN G B₁₂ rfl rfl rfl (.cell F₁₂ vm rfl rfl (lt_off s.heap.objs.size 4 (by decide)) (le_off s.heap.objs.size 4 7 (by decide))) hm12 (by omega)) fun tk t => ?_
  refine call_rg1 fun r s₁₃ t' u' v' nr hr S₁₃ => ?_
  refine go_rangeT 0 R₁.hd hr (small_nat (by omega)) (size_nat _) (by omega) (show Sm No s₁₂ s₁₃ from S₁₃) rfl (fun k => decide (g2 feel 0 k = 1)) (fun k => k) (fun C s₁₄ k tk' hk F₁₄ k₁₄ B₁₄ => ?_) fun D2 s₁₄ nD2 F₁₄ S₁₄ m2 => ?_
  · have e0 : 0 + k = k := Nat.zero_add k
    rw [e0] at F₁₄
    exact ⟨.eqN (EvZ.sq (.out rfl (cellf.keeps k₁₄) rfl rfl) (hf12.keep k₁₄.toS) sq (.kn 0) (.loc F₁₄ rfl) hpos hk (by omega)) (.kn 1), .loc F₁₄ rfl⟩
  have hmates : IsNats s₁₄.heap D2 (matesN marks.length feel) := by
    have := made_nats m2
    rwa [List.map_id'] at this
  have B₁₄ : Bk H₀ s₁₄.heap := B₁₂.monoX S₁₄.k fun b hb => frame_new B hb.1
  have hm14 := hm12.keep (F₁₂.keepS S₁₄.k)
  have hf14 := hf12.keep (F₁₂.keepS S₁₄.k)
  refine wpAny_execs_cons (wpAny_If ?_)
  refine wpAny_isTrue_Compare1 (evL F₁₄ rfl ?_) (by with_unfolding_all rfl)
  with_reducible refine list_ints (ns := []) ?_ ?_ ?_
  · exact .nil
  · decide
  intro e2 s₁₅ ne2 he2 S₁₅
  refine eqL (hmates.keep S₁₅.kp.toS) he2 (by have := R₁.un; omega) (wpAny_truthy_bool ?_)
  have F₁₅ := F₁₄.mono S₁₅.kp
  have B₁₅ := B₁₄.mono S₁₅.kp
  have hm15 := hm14.keep S₁₅.kp.toS
  have hf15 := hf14.keep S₁₅.kp.toS
  have hmates15 := hmates.keep S₁₅.kp.toS
  have S1_15 : Sm (Inter s.heap.objs.size 7) s₁ s₁₅ := ((S₁₁.trans S₁₂.any).trans S₁₄).trans S₁₅.any
  cases f with
  | zero => omega
  | succ f =>
  cases hmt : matesN marks.length feel with
  | nil =>
    simp only [decide_true, if_true]
    rw [leadN_nil hnil hmt] at hfin
    have hm0 : marks.getD 0 0 ≤ 1 := bm.at 0
    refine wpAny_execs_cons (asZ F₁₅ (EvZ.mul (.loc F₁₅ vl) (EvZ.sub (.kz 2) (EvZ.mul (.kz 2) (EvZ.nth (.cell F₁₅ vm rfl rfl (lt_off s.heap.objs.size 4 (by decide)) (le_off s.heap.objs.size 4 7 (by decide))) hm15 (.kn 0) hpos (by omega)) (by decide) (by omega))) (by omega) (by omega)) fun s₁₆ t₁₆ F₁₆ S₁₆ => ?_)
    have hm16 := hm15.keep (F₁₅.keepS S₁₆.k)
    have hf16 := hf15.keep (F₁₅.keepS S₁₆.k)
    refine wpAny_execs_cons ?_
    refine asC (k := 7) (H₀ := H₀) (c := s.heap.objs.size + 4) ?_ rfl rfl (lt_off _ _ (by decide)) (le_off _ _ _ (by decide))
    obtain ⟨vs4, hl4, f4⟩ := hm16
    refine sliceV (a := 1) (.cell F₁₆ vm rfl rfl (lt_off s.heap.objs.size 4 (by decide)) (le_off s.heap.objs.size 4 7 (by decide))) hl4 (by rw [f4.length]; exact hpos) (by rw [f4.length]; exact fle) (.kn 1) fun b4 s₁₇ n4 hb4 S₁₇ => ⟨_, F₁₆.mono S₁₇.kp, fun s₁₈ F₁₈ S₁₈ => ?_⟩
    have hm17 : IsNats s₁₇.heap b4 (marks.drop 1) := ⟨_, hb4, f4.drop 1⟩
    have hm18 := hm17.keep ((F₁₆.mono S₁₇.kp).keepS S₁₈.k)
    have S16_18 : Sm (Inter s.heap.objs.size 7) s₁₆ s₁₈ := S₁₇.any.trans S₁₈
    have hf18 := hf16.keep (F₁₆.keepS S16_18.k)
    have S1_18 : Sm (Inter s.heap.objs.size 7) s₁ s₁₈ := (S1_15.trans S₁₆).trans S16_18
    have B₁₈ : Bk H₀ s₁₈.heap := B₁.monoX S1_18.k fun b hb => frame_new B hb.1
    refine wpAny_execs_cons ?_
    refine asC (k := 7) (H₀ := H₀) (c := s.heap.objs.size + 5) ?_ rfl rfl (lt_off _ _ (by decide)) (le_off _ _ _ (by decide))
    refine evComp (cl := []) fsi_sub (by with_unfolding_all rfl) rfl (by decide) (by decide) (fun _ _ h => by cases h) rfl rfl B₁₈ ?_
    obtain ⟨vs5, hl5, f5⟩ := hf18
    have hl5' : vs5.length = marks.length := by rw [f5.length, sq.1]
    refine sliceV (a := 1) (.cell F₁₈ vf rfl rfl (lt_off s.heap.objs.size 5 (by decide)) (le_off s.heap.objs.size 5 7 (by decide))) hl5 (by omega) (by omega) (.kn 1) fun b5 s₁₉ n5 hb5 S₁₉ => ?_
    have f5' := f5.drop 1
    refine go_list R₁.hd hb5 (by rw [List.length_drop]; omega) S₁₉ (fun _ => true) (fun i v h' => ∃ d, v = .ref d ∧ IsNats h' d (((feel.drop 1).getD i []).drop 1)) (fun C i v s₂₀ hv nC F₂₀ k₂₀ B₂₀ => ?_) fun D5 s₂₀ nD5 S₂₀ m5 => ?_
    · obtain ⟨row, hrow, d, rfl, hd⟩ := f5'.get' hv
      have er : (feel.drop 1).getD i [] = row := by rw [List.getD_eq_getElem?_getD, hrow]; rfl
      rw [er]
      refine asgN F₂₀ (.inl rfl) fun s₂₁ F₂₁ S₂₁ => ?_
      refine wpAny_tests_nil ⟨rfl, ?_⟩
      simp only [if_true]
      have hd21 := hd.keep (keepF k₂₀ S₂₁.k nC).toS
      obtain ⟨vs6, hl6, f6⟩ := hd21
      have hr : row.length = marks.length := sq.2 row (List.mem_of_mem_drop (List.mem_of_getElem? hrow))
      refine sliceV (a := 1) (.loc F₂₁ rfl) hl6 (by rw [f6.length]; omega) (by rw [f6.length]; omega) (.kn 1) fun b6 s₂₂ n6 hb6 S₂₂ => ⟨S₂₁.trans S₂₂.any, ⟨_, F₂₁.mono S₂₂.kp⟩, fun h' nk => ⟨b6, rfl, _, ?_, f6.drop 1⟩⟩
      obtain ⟨o, eo, ro⟩ := hb6
      exact ⟨o, newK_of F₂₁ S₂₁.k nk b6 o n6 eo, ro⟩
    have hf20 : IsRows s₂₀.heap D5 ((feel.drop 1).map (List.drop 1)) := by
      have := made_rows (g := fun i => ((feel.drop 1).getD i []).drop 1) m5
      rw [filter_true, show (vs5.drop 1).length = (feel.drop 1).length by rw [List.length_drop, List.length_drop, f5.length], range_map_getD (feel.drop 1) [] (List.drop 1)] at this
      exact this
    refine ⟨_, F₁₈.mono S₂₀.kp, fun s₂₁ F₂₁ S₂₁ => ?_⟩
    have S18_21 : Sm (Inter s.heap.objs.size 7) s₁₈ s₂₁ := S₂₀.any.trans S₂₁
    refine wpAny_execs_nil (wpAny_execs_nil ⟨f, Nat.lt_succ_self _, _, _, _, _, b4, D5, t₁₆, F₂₁, rfl, rfl, rfl, hm18.keep (F₁₈.keepS S18_21.k), hf20.keep ((F₁₈.mono S₂₀.kp).keepS S₂₁.k), ?_, ?_, ?_, ?_, ?_, ?_, hfin, S1_18.trans S18_21⟩)
    · refine ⟨by rw [List.length_map, List.length_drop, List.length_drop, sq.1], fun r hr => ?_⟩
      obtain ⟨x, hx, rfl⟩ := List.mem_map.mp hr
      rw [List.length_drop, List.length_drop, sq.2 x (List.mem_of_mem_drop hx)]
    · rw [List.length_drop]; omega
    · omega
    · exact fun x hx => bm x (List.mem_of_mem_drop hx)
    · intro r hr x hx
      obtain ⟨y, hy, rfl⟩ := List.mem_map.mp hr
      exact bf y (List.mem_of_mem_drop hy) x (List.mem_of_mem_drop hx)
    · have e : marks.getD 0 0 = 0 ∨ marks.getD 0 0 = 1 := by omega
      rw [Nat.pow_succ, ← Nat.mul_assoc] at bl
      rcases e with e | e <;> rw [e, Int.natAbs_mul, Nat.mul_right_comm]
      · exact bl
      · exact Nat.le_trans (Nat.le_of_eq (show lead.natAbs * 2 ^ f * 0 = 0 from Nat.mul_zero _)) (Nat.zero_le _)
  | cons mate rest =>
    simp only [reduceCtorEq, decide_false, Bool.false_eq_true, if_false]
    rw [leadN_cons hnil hmt] at hfin
    rw [hmt] at hmates15
    have hmem : mate ∈ matesN marks.length feel := by rw [hmt]; exact List.mem_cons_self
    have hmate : mate < marks.length := List.mem_range.mp (List.mem_filter.mp hmem).1
    have hm0 : marks.getD 0 0 ≤ 1 := bm.at 0
    have hm1 : marks.getD mate 0 ≤ 1 := bm.at mate
    refine wpAny_execs_cons ?_
    refine asC (k := 7) (H₀ := H₀) (c := s.heap.objs.size + 6) ?_ rfl rfl (lt_off _ _ (by decide)) (le_off _ _ _ (by decide))
    refine EvZ.run (EvZ.item (n := mate) (.loc F₁₅ rfl) hmates15 (.kn 0) rfl (by omega)) fun tk tm => ⟨_, F₁₅, fun s₁₆ F₁₆ S₁₆ => ?_⟩
    have S₁₆ : Sm (Inter s.heap.objs.size 7) s₁₅ s₁₆ := S₁₆
    have hm16 := hm15.keep (F₁₅.keepS S₁₆.k)
    have hf16 := hf15.keep (F₁₅.keepS S₁₆.k)
    have l4 := lt_off s.heap.objs.size 4 (by decide)
    have u4 := le_off s.heap.objs.size 4 7 (by decide)
    have l6 := lt_off s.heap.objs.size 6 (by decide)
    have u6 := le_off s.heap.objs.size 6 7 (by decide)
    have l5 := lt_off s.heap.objs.size 5 (by decide)
    have u5 := le_off s.heap.objs.size 5 7 (by decide)
    have l7 := lt_off s.heap.objs.size 7 (by decide)
    have u7 := le_off s.heap.objs.size 7 7 (by decide)
    refine wpAny_execs_cons (asZ F₁₆ (EvZ.mul (.loc F₁₆ vl) (EvZ.sub (.kz 2) (EvZ.mul (EvZ.mul (.kz 4) (EvZ.nth (.cell F₁₆ vm rfl rfl l4 u4) hm16 (.kn 0) hpos (by omega)) (by decide) (by omega)) (EvZ.nth (.cell F₁₆ vm rfl rfl l4 u4) hm16 (.cell F₁₆ rfl rfl rfl l6 u6) hmate (by omega)) (by omega) (by omega))) (by omega) ?_) fun s₁₇ t₁₇ F₁₇ S₁₇ => ?_)
    · have e : marks.getD 0 0 = 0 ∨ marks.getD 0 0 = 1 := by omega
      rcases e with e | e <;> rw [e] <;> omega
    have hm17 := hm16.keep (F₁₆.keepS S₁₇.k)
    have hf17 := hf16.keep (F₁₆.keepS S₁₇.k)
    have S1_17 : Sm (Inter s.heap.objs.size 7) s₁ s₁₇ := (S1_15.trans S₁₆).trans S₁₇
    have B₁₇ : Bk H₀ s₁₇.heap := B₁.monoX S1_17.k fun b hb => frame_new B hb.1
    have cellf17 : s₁₇.heap.IsCell (s.heap.objs.size + 5) (some (.ref af)) := by
      obtain ⟨ov, I, q⟩ := F₁₇.cl (Str.ofString "feel") (s.heap.objs.size + 5) rfl rfl l5 u5
      rwa [q _ vf] at I
    have celm17 : s₁₇.heap.IsCell (s.heap.objs.size + 6) (some (.int (mate : Int) tm)) := by
      obtain ⟨ov, I, q⟩ := F₁₇.cl (Str.ofString "mate") (s.heap.objs.size + 6) rfl rfl l6 u6
      rwa [q _ rfl] at I
    refine wpAny_execs_cons ?_
    refine asC (k := 7) (H₀ := H₀) (c := s.heap.objs.size + 7) ?_ rfl rfl (lt_off _ _ (by decide)) (le_off _ _ _ (by decide))
    refine evComp (cl := [(Str.ofString "mate", s.heap.objs.size + 6), (Str.ofString "feel", s.heap.objs.size + 5)]) fsi_call (by with_unfolding_all rfl) rfl (by decide) (by decide) (clc celm17 (cl1 cellf17)) rfl rfl B₁₇ ?_
    refine callT (by with_unfolding_all rfl) (by boot_fast) G B₁₇ rfl rfl rfl (items2 ?_)
    refine EvZ.run (.kz 1) fun tk1 tt1 => ?_
    refine EvZ.run (s := { s₁₇ with toks := tk1 }) (EvZ.lenN G B₁₇ rfl rfl rfl (.cell F₁₇ vm rfl rfl l4 u4) hm17 (by omega)) fun tk2 tt2 => ?_
    refine call_rg2 fun r s₁₈ t' u' v' nr hr S₁₈ => ?_
    refine go_range R₁.hd hr (small_one_nat (by omega)) (size_one_nat _) (by omega) (show Sm No s₁₇ s₁₈ from S₁₈) (fun i => decide (1 + i ≠ mate)) (fun i v h' => ∃ b t1 t2 t3, v = .ref b ∧ h'.IsTuple b #[.int ((1 + i : Nat) : Int) t1, .int ((g2 feel (1 + i) 0 : Nat) : Int) t2, .int ((g2 feel (1 + i) mate : Nat) : Int) t3]) (fun C i t s₁₉ hi nC F₁₉ k₁₉ B₁₉ => ?_) fun D6 s₁₉ nD6 S₁₉ m6 => ?_
    · have e1 : (1 : Int) + (i : Int) = ((1 + i : Nat) : Int) := by omega
      rw [e1]
      refine asgN F₁₉ (.inl rfl) fun s₂₀ F₂₀ S₂₀ => ?_
      have k20 : Keep s₁₇.heap s₂₀.heap := keepF k₁₉ S₂₀.k nC
      refine tests1 (.neN (.loc F₂₀ rfl) (.out rfl (celm17.keeps k20) rfl rfl)) fun tk => ⟨rfl, ?_⟩
      split
      · have o1 := hf17.keep k20.toS
        have c1 := cellf17.keeps k20
        refine wpAny_Tuple (items3 ?_)
        refine EvZ.run (s := { s₂₀ with toks := tk }) (.loc F₂₀ rfl) fun tk1 x1 => ?_
        refine EvZ.run (s := { s₂₀ with toks := tk1 }) (EvZ.sq (.out rfl c1 rfl rfl) o1 sq (.loc F₂₀ rfl) (.kn 0) (by omega) hpos (by omega)) fun tk2 x2 => ?_
        refine EvZ.run (s := { s₂₀ with toks := tk2 }) (EvZ.sq (.out rfl c1 rfl rfl) o1 sq (.loc F₂₀ rfl) (.out rfl (celm17.keeps k20) rfl rfl) (by omega) hmate (by omega)) fun tk3 x3 => ?_
        refine ⟨by show (3 : Nat) ≤ sizeLine; rw [sizeLine_eq]; decide, ⟨fun b o nb e => Heap.get?_push_of_some _ (S₂₀.k b o nb e), S₂₀.g, S₂₀.o⟩, ⟨_, F₂₀.mono (Keep.push _)⟩, fun h' nk => ⟨_, x1, x2, x3, rfl, _, nk _ _ ?_ (Heap.get?_push_size _ rfl), rfl, _, rfl⟩⟩
        exact none_of_keepX S₂₀.k (F₂₀.notNew new_of_size) new_of_size
      · exact ⟨S₂₀, ⟨_, F₂₀⟩⟩
    have hleft19 : IsTrips s₁₉.heap D6 (leftN marks.length feel mate) := made_trips (g := fun i => (1 + i, g2 feel (1 + i) 0, g2 feel (1 + i) mate)) m6
    have hlle : (leftN marks.length feel mate).length ≤ 1000 := by
      unfold leftN
      rw [List.length_map]
      exact Nat.le_trans (List.length_filter_le _ _) (by rw [List.length_range]; omega)
    refine ⟨_, F₁₇.mono S₁₉.kp, fun s₂₀ F₂₀ S₂₀ => ?_⟩
    have S17_20 : Sm (Inter s.heap.objs.size 7) s₁₇ s₂₀ := S₁₉.any.trans S₂₀
    have hm20 := hm17.keep (F₁₇.keepS S17_20.k)
    have hf20 := hf17.keep (F₁₇.keepS S17_20.k)
    have hleft20 := hleft19.keep ((F₁₇.mono S₁₉.kp).keepS S₂₀.k)
    have S1_20 : Sm (Inter s.heap.objs.size 7) s₁ s₂₀ := S1_17.trans S17_20
    have B₂₀ : Bk H₀ s₂₀.heap := B₁.monoX S1_20.k fun b hb => frame_new B hb.1
    have cellk20 : s₂₀.heap.IsCell (s.heap.objs.size + 4) (some (.ref am)) := by
      obtain ⟨ov, I, q⟩ := F₂₀.cl (Str.ofString "marks") (s.heap.objs.size + 4) rfl rfl l4 u4
      rwa [q _ vm] at I
    have celm20 : s₂₀.heap.IsCell (s.heap.objs.size + 6) (some (.int (mate : Int) tm)) := by
      obtain ⟨ov, I, q⟩ := F₂₀.cl (Str.ofString "mate") (s.heap.objs.size + 6) rfl rfl l6 u6
      rwa [q _ rfl] at I
    refine wpAny_execs_cons ?_
    refine asC (k := 7) (H₀ := H₀) (c := s.heap.objs.size + 4) ?_ rfl rfl (lt_off _ _ (by decide)) (le_off _ _ _ (by decide))
    refine evComp (cl := [(Str.ofString "mate", s.heap.objs.size + 6), (Str.ofString "marks", s.heap.objs.size + 4)]) fsi_name (by with_unfolding_all rfl) rfl (by decide) (by decide) (clc celm20 (cl1 cellk20)) rfl rfl B₂₀ ?_
    refine evC F₂₀ rfl ?_ rfl rfl l7 u7
    refine go_tripsN R₁.hd hleft20 hlle (Sm.refl _ _) rfl rfl rfl (markStep marks mate) (fun C s₂₁ t x1 x2 x3 ht F₂₁ k₂₁ B₂₁ => ?_) fun D7 s₂₁ nD7 S₂₁ m7 => ?_
    · obtain ⟨q1, q2, q3, q4⟩ := leftN_at ht
      have c1 := cellk20.keeps k₂₁
      have c2 := celm20.keeps k₂₁
      have o1 := hm20.keep k₂₁.toS
      exact .xor (.xor (.xor (EvZ.nth (.out rfl c1 rfl rfl) o1 (.loc F₂₁ rfl) q2 (by omega)) (.and (.loc F₂₁ rfl) (EvZ.nth (.out rfl c1 rfl rfl) o1 (.kn 0) hpos (by omega)))) (.and (.loc F₂₁ rfl) (EvZ.nth (.out rfl c1 rfl rfl) o1 (.out rfl c2 rfl rfl) hmate (by omega)))) (.and (.loc F₂₁ rfl) (.loc F₂₁ rfl))
    have hmk21 : IsNats s₂₁.heap D7 ((leftN marks.length feel mate).map (markStep marks mate)) := by
      have := made_nats m7
      rwa [filter_true, range_map_getD (leftN marks.length feel mate) (0, 0, 0) (markStep marks mate)] at this
    refine ⟨_, F₂₀.mono S₂₁.kp, fun s₂₂ F₂₂ S₂₂ => ?_⟩
    have S20_22 : Sm (Inter s.heap.objs.size 7) s₂₀ s₂₂ := S₂₁.any.trans S₂₂
    have hmk22 := hmk21.keep ((F₂₀.mono S₂₁.kp).keepS S₂₂.k)
    have hf22 := hf20.keep (F₂₀.keepS S20_22.k)
    have hleft22 := hleft20.keep (F₂₀.keepS S20_22.k)
    have S1_22 : Sm (Inter s.heap.objs.size 7) s₁ s₂₂ := S1_20.trans S20_22
    have B₂₂ : Bk H₀ s₂₂.heap := B₁.monoX S1_22.k fun b hb => frame_new B hb.1
    have cellf22 : s₂₂.heap.IsCell (s.heap.objs.size + 5) (some (.ref af)) := by
      obtain ⟨ov, I, q⟩ := F₂₂.cl (Str.ofString "feel") (s.heap.objs.size + 5) rfl rfl l5 u5
      rwa [q _ vf] at I
    have celll22 : s₂₂.heap.IsCell (s.heap.objs.size + 7) (some (.ref D6)) := by
      obtain ⟨ov, I, q⟩ := F₂₂.cl (Str.ofString "left") (s.heap.objs.size + 7) rfl rfl l7 u7
      rwa [q _ rfl] at I
    refine wpAny_execs_cons ?_
    refine asC (k := 7) (H₀ := H₀) (c := s.heap.objs.size + 5) ?_ rfl rfl (lt_off _ _ (by decide)) (le_off _ _ _ (by decide))
    refine evComp (cl := [(Str.ofString "left", s.heap.objs.size + 7), (Str.ofString "feel", s.heap.objs.size + 5)]) fsi_name (by with_unfolding_all rfl) rfl (by decide) (by decide) (clc celll22 (cl1 cellf22)) rfl rfl B₂₂ ?_
    refine evC F₂₂ rfl ?_ rfl rfl l7 u7
    obtain ⟨vs8, hl8, f8⟩ := id hleft22
    refine go_list R₁.hd hl8 (by rw [f8.length]; exact hlle) (Sm.refl _ _) (fun _ => true) (fun i v h' => ∃ d, v = .ref d ∧ IsNats h' d ((leftN marks.length feel mate).map (feelStep feel ((leftN marks.length feel mate).getD i (0, 0, 0))))) (fun C i v s₂₃ hv nC F₂₃ k₂₃ B₂₃ => ?_) fun D8 s₂₃ nD8 S₂₃ m8 => ?_
    · obtain ⟨t, ht, b, t1, t2, t3, rfl, hb⟩ := f8.get' hv
      have er : (leftN marks.length feel mate).getD i (0, 0, 0) = t := by rw [List.getD_eq_getElem?_getD, ht]; rfl
      rw [er]
      obtain ⟨q1, q2, q3, q4⟩ := leftN_at (List.mem_of_getElem? ht)
      refine asgT3 R₁.hd F₂₃ (istup_keep hb k₂₃.toS) (.inr ⟨rfl, C + 1, rfl, lt_off _ _ (by decide), le_off _ _ 3 (by decide)⟩) (.inr ⟨rfl, C + 2, rfl, lt_off _ _ (by decide), le_off _ _ 3 (by decide)⟩) (.inr ⟨rfl, C + 3, rfl, lt_off _ _ (by decide), le_off _ _ 3 (by decide)⟩) fun s₂₄ F₂₄ S₂₄ => ?_
      refine wpAny_tests_nil ⟨rfl, ?_⟩
      simp only [if_true]
      have k24 : Keep s₂₂.heap s₂₄.heap := keepF k₂₃ S₂₄.k nC
      have B₂₄ : Bk H₀ s₂₄.heap := B₂₂.mono k24
      have cj : s₂₄.heap.IsCell (C + 1) (some (.int (t.1 : Int) t1)) := by
        obtain ⟨ov, I, q⟩ := F₂₄.cl (Str.ofString "j") (C + 1) rfl rfl (lt_off _ _ (by decide)) (le_off _ _ 3 (by decide))
        rwa [q _ rfl] at I
      have ca : s₂₄.heap.IsCell (C + 2) (some (.int (t.2.1 : Int) t2)) := by
        obtain ⟨ov, I, q⟩ := F₂₄.cl (Str.ofString "a") (C + 2) rfl rfl (lt_off _ _ (by decide)) (le_off _ _ 3 (by decide))
        rwa [q _ rfl] at I
      have cb : s₂₄.heap.IsCell (C + 3) (some (.int (t.2.2 : Int) t3)) := by
        obtain ⟨ov, I, q⟩ := F₂₄.cl (Str.ofString "b") (C + 3) rfl rfl (lt_off _ _ (by decide)) (le_off _ _ 3 (by decide))
        rwa [q _ rfl] at I
      have cf := cellf22.keeps k24
      refine evComp (cl := [(Str.ofString "j", C + 1), (Str.ofString "feel", s.heap.objs.size + 5), (Str.ofString "b", C + 3), (Str.ofString "a", C + 2)]) fsi_name (by with_unfolding_all rfl) rfl (by decide) (by decide) (clc cj (clc cf (clc cb (cl1 ca)))) rfl rfl B₂₄ ?_
      refine evO rfl (celll22.keeps k24) ?_ rfl rfl
      refine go_tripsN R₁.hd (hleft22.keep k24.toS) hlle (Sm.refl _ _) rfl rfl rfl (feelStep feel t) (fun C2 s₂₅ u x1 x2 x3 hu F₂₅ k₂₅ B₂₅ => ?_) fun D9 s₂₅ nD9 S₂₅ m9 => ?_
      · obtain ⟨r1, r2, r3, r4⟩ := leftN_at hu
        have o1 := hf22.keep (k24.trans k₂₅).toS
        exact .xor (.xor (EvZ.sq (.out rfl (cf.keeps k₂₅) rfl rfl) o1 sq (.out rfl (cj.keeps k₂₅) rfl rfl) (.loc F₂₅ rfl) q2 r2 (by omega)) (.and (.out rfl (ca.keeps k₂₅) rfl rfl) (.loc F₂₅ rfl))) (.and (.out rfl (cb.keeps k₂₅) rfl rfl) (.loc F₂₅ rfl))
      · refine ⟨S₂₄.trans S₂₅.any, ⟨_, F₂₄.mono S₂₅.kp⟩, fun h' nk => ⟨D9, rfl, ?_⟩⟩
        have := made_natsAt (g := fun i => feelStep feel t ((leftN marks.length feel mate).getD i (0, 0, 0))) m9 (newK_of F₂₄ S₂₄.k nk)
        rwa [filter_true, range_map_getD (leftN marks.length feel mate) (0, 0, 0) (feelStep feel t)] at this
    have hf23 : IsRows s₂₃.heap D8 ((leftN marks.length feel mate).map fun t => (leftN marks.length feel mate).map (feelStep feel t)) := by
      have := made_rows (g := fun i => (leftN marks.length feel mate).map (feelStep feel ((leftN marks.length feel mate).getD i (0, 0, 0)))) m8
      rwa [filter_true, f8.length, range_map_getD (leftN marks.length feel mate) (0, 0, 0) (fun t => (leftN marks.length feel mate).map (feelStep feel t))] at this
    refine ⟨_, F₂₂.mono S₂₃.kp, fun s₂₄ F₂₄ S₂₄ => ?_⟩
    have S22_24 : Sm (Inter s.heap.objs.size 7) s₂₂ s₂₄ := S₂₃.any.trans S₂₄
    have hle : (leftN marks.length feel mate).length ≤ marks.length - 1 := by
      unfold leftN
      rw [List.length_map]
      exact Nat.le_trans (List.length_filter_le _ _) (by rw [List.length_range]; exact Nat.le_refl _)
    refine wpAny_execs_nil (wpAny_execs_nil ⟨f, Nat.lt_succ_self _, _, _, _, _, D7, D8, t₁₇, F₂₄, rfl, rfl, rfl, hmk22.keep (F₂₂.keepS S22_24.k), hf23.keep ((F₂₂.mono S₂₃.kp).keepS S₂₄.k), ?_, ?_, ?_, ?_, ?_, ?_, hfin, S1_22.trans S22_24⟩)
    · refine ⟨by rw [List.length_map, List.length_map], fun r hr => ?_⟩
      obtain ⟨x, hx, rfl⟩ := List.mem_map.mp hr
      rw [List.length_map, List.length_map]
    · rw [List.length_map]; omega
    · omega
    · intro x hx
      obtain ⟨t, ht, rfl⟩ := List.mem_map.mp hx
      obtain ⟨q1, q2, q3, q4⟩ := leftN_at ht
      unfold markStep
      have ba : t.2.1 ≤ 1 := by rw [q3]; exact g2_bit bf _ _
      have bb : t.2.2 ≤ 1 := by rw [q4]; exact g2_bit bf _ _
      exact xor_bit (xor_bit (xor_bit (bm.at _) (and_bit bb)) (and_bit ba)) (and_bit ba)
    · intro r hr x hx
      obtain ⟨t, ht, rfl⟩ := List.mem_map.mp hr
      obtain ⟨u, hu, rfl⟩ := List.mem_map.mp hx
      obtain ⟨q1, q2, q3, q4⟩ := leftN_at ht
      unfold feelStep
      have ba : t.2.1 ≤ 1 := by rw [q3]; exact g2_bit bf _ _
      have bb : t.2.2 ≤ 1 := by rw [q4]; exact g2_bit bf _ _
      exact xor_bit (xor_bit (g2_bit bf _ _) (and_bit ba)) (and_bit bb)
    · have e : marks.getD 0 0 = 0 ∨ marks.getD 0 0 = 1 := by omega
      have e' : marks.getD mate 0 = 0 ∨ marks.getD mate 0 = 1 := by omega
      rw [Nat.pow_succ, ← Nat.mul_assoc] at bl
      rcases e with e | e <;> rcases e' with e' | e' <;> rw [e, e', Int.natAbs_mul, Nat.mul_right_comm] <;> exact bl
end
end Mine
end
/-! text L12 -/
section
open PySem PySem.Calls PySem.W PyProof.Rows
namespace Mine
section
variable {w : World} {A : Around} {E : Value → Shared → Prop} {s : Shared} {H₀ : Heap} {env : Env} {value : Expr} {pos p : Pos} {Q : Value → Shared → Prop}
/-- a slice of a list, whatever it was read from -/
theorem sliceR {lower upper : Option Expr} (h : wpAny (model Prg w) A (eval value env) (fun o s₁ => wpAny (model Prg w) A (evalPart lower env) (fun vl s₂ => wpAny (model Prg w) A (evalPart upper env) (fun vu s₃ =>
      ∃ l items lo hi, o = .ref l ∧ s₃.heap.IsList l items ∧ items.size ≤ sizeLine ∧ IsPart vl lo ∧ IsPart vu hi ∧
        (∀ b s', s₃.heap.get? b = none → s'.heap.IsList b (slicePick items lo hi none) → Sm No s₃ s' → Q (.ref b) s')) E s₂) E s₁) E s) :
    wpAny (model Prg w) A (eval (.Subscript value (.Slice lower upper none p) pos) env) Q E s := by
  rw [eval_Subscript]
  refine wpAny_bind (wpAny_mono h (fun o s₁ h₁ => wpAny_bind (wpAny_holding (wpAny_Slice (wpAny_mono h₁ (fun vl s₂ h₂ => wpAny_mono h₂ (fun vu s₃ h₃ => ?_) fun _ _ x => x) fun _ _ x => x)))) fun _ _ x => x)
  obtain ⟨l, items, lo, hi, rfl, hl, hsz, pl, pu, q⟩ := h₃
  rw [evalPart_none]
  refine wpAny_pure (wpAny_bind (wpAny_standAt ?_))
  have hl' := hl.push { cls := .type "slice", data := .fields #[vl, vu, .none] }
  have fin : wpAny (model Prg w) A (operate [.ref s₃.heap.objs.size, .ref l] (getItem (.ref l) (.ref s₃.heap.objs.size))) (fun r s₄ => wpAny (model Prg w) A (letTemporaryGo value (.ref l) r >>= fun _ => pure r) Q E s₄) E { s₃ with heap := s₃.heap.push { cls := .type "slice", data := .fields #[vl, vu, .none] } } := by
    refine wpAny_operating (wpAny_getItem_list_slice hl' (Heap.IsSliceOf.new ..) pl pu .none (by simp) ?_ hsz)
    refine wpAny_bind (wpAny_letTemporaryGo (wpAny_pure ?_))
    refine q _ _ (Heap.get?_none_of_le ?_) ⟨{ cls := .type "list", data := .seq (slicePick items lo hi none) }, Heap.get?_push_size _ rfl, rfl, 0, rfl⟩ ⟨fun b o _ e => Heap.get?_push_of_some _ (Heap.get?_push_of_some _ e), rfl, rfl⟩
    show s₃.heap.objs.size ≤ (s₃.heap.push _).objs.size
    rw [Heap.size_push]; exact Nat.le_succ _
  have hT : ({ s₃ with heap := s₃.heap.push { cls := .type "slice", data := .fields #[vl, vu, .none] } } : Shared).TypeIs (.ref l) "list" := Heap.IsList.typeIs hl'
  refine wpAny_bind ?_
  rw [getitemInPython_of_ne hT.not_modules]
  refine wpAny_bind (wpAny_specialOf hT list_getitem_lookup ?_)
  first
    | exact wpAny_pure (wpAny_bind fin)
    | exact wpAny_bind (wpAny_pure (wpAny_bind fin))
    | exact wpAny_bind fin
theorem sliceTo {l : Addr} {vs : List Value} {up : Expr} {b : Nat} (h : EvV w A s env value (.ref l)) (hl : s.heap.IsList l vs.toArray) (hn : vs.length ≤ 1000) (eb : EvZ w A s env up (b : Int))
    (q : ∀ d s', s.heap.get? d = none → s'.heap.IsList d (vs.take b).toArray → Sm No s s' → Q (.ref d) s') :
    wpAny (model Prg w) A (eval (.Subscript value (.Slice none (some up) none p) pos) env) Q E s := by
  refine sliceR (h.run fun tk => wpAny_evalPart_none (wpAny_evalPart_some (eb tk _ _ fun tk1 t => ⟨l, vs.toArray, none, some (b : Int), rfl, hl, by rw [List.size_toArray, sizeLine_eq]; omega, .none, .int _ _, fun d s' nd hd S => ?_⟩)))
  rw [slicePick_upto'] at hd
  exact q d s' nd (by simpa using hd) S
/-- two lists of values glued -/
theorem opCatV {l b : Addr} {vs us : List Value} (hl : s.heap.IsList l vs.toArray) (hb : s.heap.IsList b us.toArray) (hn : vs.length + us.length ≤ 1000)
    (h : ∀ a s', s.heap.get? a = none → s'.heap.IsList a (vs ++ us).toArray → Sm No s s' → Q (.ref a) s') : wpAny (model Prg w) A (binaryOp .Add (.ref l) (.ref b)) Q E s := by
  obtain ⟨⟨cls, dd, data, sl⟩, ho, hc, n, hd⟩ := id hl
  obtain ⟨⟨cls2, dd2, data2, sl2⟩, ho2, hc2, n2, hd2⟩ := id hb
  simp only at hc hd hc2 hd2
  subst hc hd hc2 hd2
  have e : vs.toArray ++ us.toArray = (vs ++ us).toArray := by simp
  refine concat_meets ⟨_, ho, rfl⟩ ⟨_, ho2, rfl⟩ noFill_list_add seq_list_add PySem.F.slot_list_add PySem.F.entry_list_add (PySem.F.args_list_add_2 _ _) (list_addW l b vs.toArray us.toArray n n2 dd dd2 sl sl2 (by rw [List.size_toArray, List.size_toArray, sizeLine_eq]; omega)) ⟨ho, ho2, ?_⟩
  rw [e]
  exact h _ _ new_of_size ⟨_, Heap.get?_push_size _ rfl, rfl, _, rfl⟩ (Sm.of (Keep.push _))
end
/-- a walk along two lists at once -/
def ZipSt (z TI TO i1 i2 l1 l2 : Addr) (xs ys : Array Value) (i : Nat) (h : Heap) : Prop :=
  IsZip h z TI TO .none ∧ IsPair h TI (.ref i1) (.ref i2) ∧ (∃ a b, IsPair h TO a b) ∧ h.IsListIter i1 l1 i ∧ h.IsListIter i2 l2 i ∧ h.IsList l1 xs ∧ h.IsList l2 ys
theorem Src.zip {w : World} {A : Around} {elts : List Expr} {x1 : Nat} {pos : Pos} {z TI TO i1 i2 l1 l2 : Addr} {xs ys : Array Value} (hh : A.handled = none) (D : ZipApart z TI TO i1 i2 l1 l2) (hsz : ys.size = xs.size) :
    Src w A (.Tuple elts x1 pos) z [z, TI, TO, i1, i2, l1, l2] [z, TO, i1, i2] xs.size (fun i v h => ∃ T x y, v = .ref T ∧ h.IsTuple T #[x, y] ∧ xs[i]? = some x ∧ ys[i]? = some y) (ZipSt z TI TO i1 i2 l1 l2 xs ys) where
  sub := fun b hb => by
    simp only [List.mem_cons, List.not_mem_nil, or_false] at hb ⊢
    rcases hb with h | h | h | h <;> simp [h]
  frame := fun i h h' st k => by
    obtain ⟨a1, a2, ⟨u, v, a3⟩, ⟨o4, e4, r4⟩, ⟨o5, e5, r5⟩, ⟨o6, e6, r6⟩, ⟨o7, e7, r7⟩⟩ := st
    exact ⟨k _ (by simp) _ a1, k _ (by simp) _ a2, ⟨u, v, k _ (by simp) _ a3⟩, ⟨o4, k _ (by simp) _ e4, r4⟩, ⟨o5, k _ (by simp) _ e5, r5⟩, ⟨o6, k _ (by simp) _ e6, r6⟩, ⟨o7, k _ (by simp) _ e7, r7⟩⟩
  item := fun i s Q E hi st h => by
    obtain ⟨a1, a2, ⟨u, v, a3⟩, a4, a5, a6, a7⟩ := st
    have hx : xs[i]? = some xs[i] := Array.getElem?_eq_getElem hi
    have hy : ys[i]? = some (ys[i]'(by omega)) := Array.getElem?_eq_getElem (by omega)
    refine wpAny_pyNext_zip_item D a1 a2 a3 a4 a5 a6 a7 hx hy fun h' b1 b2 b3 b4 b5 b6 k => ?_
    have zlt : @LT.lt Nat _ z s.heap.objs.size := Heap.lt_size a1
    have hTz : s.heap.objs.size ≠ z := Nat.ne_of_gt zlt
    refine ⟨_, rfl, wpAny_letOwnedTupleGo_zip b1 fun h'' c1 hs => h _ _ ⟨_, xs[i], ys[i]'(by omega), rfl, ⟨_, (hs.2 _ hTz).trans b5, rfl, _, rfl⟩, hx, hy⟩ ⟨c1, (hs.2 _ D.TIz).trans (k _ _ D.TIz D.TITO D.TIi1 D.TIi2 a2), ⟨_, _, (hs.2 _ D.TOz).trans b2⟩, (let ⟨o, e, r⟩ := b3; ⟨o, (hs.2 _ D.i1z).trans e, r⟩), (let ⟨o, e, r⟩ := b4; ⟨o, (hs.2 _ D.i2z).trans e, r⟩), ?_, ?_⟩ ?_⟩
    · obtain ⟨o, e, r⟩ := a6; exact ⟨o, (hs.2 _ D.l1z).trans (k _ _ D.l1z D.l1TO D.l1i1 D.l1i2 e), r⟩
    · obtain ⟨o, e, r⟩ := a7; exact ⟨o, (hs.2 _ D.l2z).trans (k _ _ D.l2z D.l2TO D.l2i1 D.l2i2 e), r⟩
    · exact Sm.ofX (tk := s.toks) fun b o nb e => (hs.2 b (fun q => nb (by simp [q]))).trans (k b o (fun q => nb (by simp [q])) (fun q => nb (by simp [q])) (fun q => nb (by simp [q])) (fun q => nb (by simp [q])) e)
  done := fun s Q E st h => by
    obtain ⟨a1, a2, ⟨u, v, a3⟩, a4, a5, a6, a7⟩ := st
    refine wpAny_pyNext_zip_end hh D a1 a2 a3 a4 a5 a6 a7 (.inl (Array.getElem?_eq_none (Nat.le_refl _))) fun h' k => ?_
    exact h _ (Sm.ofX (tk := s.toks) fun b o nb e => k b o (fun q => nb (by simp [q])) (fun q => nb (by simp [q])) (fun q => nb (by simp [q])) (fun q => nb (by simp [q])) e)
  self := fun i s Q E st h => wpAny_pyIter_zip st.1 h
  ex := fun i h st b hb => by
    obtain ⟨a1, a2, ⟨u, v, a3⟩, ⟨o4, e4, r4⟩, ⟨o5, e5, r5⟩, ⟨o6, e6, r6⟩, ⟨o7, e7, r7⟩⟩ := st
    simp only [List.mem_cons, List.not_mem_nil, or_false] at hb
    rcases hb with rfl | rfl | rfl | rfl | rfl | rfl | rfl
    · exact ⟨_, a1⟩
    · exact ⟨_, a2⟩
    · exact ⟨_, a3⟩
    · exact ⟨_, e4⟩
    · exact ⟨_, e5⟩
    · exact ⟨_, e6⟩
    · exact ⟨_, e7⟩
section
variable {w : World} {A : Around} {E : Value → Shared → Prop} {s₀ s : Shared} {H₀ : Heap} {env : Env} {elt : Expr} {x y : Str} {px py pt : Pos} {j : Nat} {scope : Scope} {cl : List (Str × Addr)}
/-- along a zip of two lists, new made -/
theorem zip_call {a b : Addr} {vs us : List Value} {Q : Value → Shared → Prop} {elts : List Expr} {x1 : Nat} {pos : Pos} (hl : s.heap.IsList a vs.toArray) (hr : s.heap.IsList b us.toArray)
    (h : ∀ z TI TO i1 i2 s', (∀ c ∈ [z, TI, TO, i1, i2], s.heap.get? c = none) → ZipApart z TI TO i1 i2 a b → ZipSt z TI TO i1 i2 a b vs.toArray us.toArray 0 s'.heap → Sm No s s' → Q (.ref z) s') :
    wpAny (model Prg w) A (call (.type "zip") [.ref a, .ref b]) Q E s := by
  refine call_zip_2 hl hr fun h' z1 z2 z3 z4 z5 z6 k => h _ (s.heap.objs.size + 2) (s.heap.objs.size + 3) s.heap.objs.size (s.heap.objs.size + 1) { s with heap := h' } (fun c hc => ?_) ?_ ⟨z1, z2, ⟨_, _, z3⟩, z4, z5, ?_, ?_⟩ (Sm.of (tk := s.toks) k)
  · simp only [List.mem_cons, List.not_mem_nil, or_false] at hc
    refine Heap.get?_none_of_le ?_
    rcases hc with rfl | rfl | rfl | rfl | rfl
    · exact Nat.le_add_right _ _
    · exact Nat.le_add_right _ _
    · exact Nat.le_add_right _ _
    · exact Nat.le_refl _
    · exact Nat.le_add_right _ _
  · have la : @LT.lt Nat _ a s.heap.objs.size := by obtain ⟨o, e, _⟩ := hl; exact Heap.lt_size e
    have lb : @LT.lt Nat _ b s.heap.objs.size := by obtain ⟨o, e, _⟩ := hr; exact Heap.lt_size e
    have key : ∀ (m n : Nat), m ≠ n → s.heap.objs.size + m ≠ s.heap.objs.size + n := fun m n q => by omega
    have key0 : ∀ (m : Nat), 0 < m → s.heap.objs.size ≠ s.heap.objs.size + m := fun m q => by omega
    have keyL : ∀ (c : Nat) (m : Nat), c < s.heap.objs.size → c ≠ s.heap.objs.size + m := fun c m q => by omega
    have keyL0 : ∀ (c : Nat), c < s.heap.objs.size → c ≠ s.heap.objs.size := fun c q => by omega
    exact ⟨key _ _ (by decide), key _ _ (by decide), key0 _ (by decide), key _ _ (by decide), key _ _ (by decide), (key0 _ (by decide)).symm, key _ _ (by decide), (key0 _ (by decide)).symm, key _ _ (by decide), key0 _ (by decide),
      keyL _ _ la, keyL _ _ la, keyL0 _ la, keyL _ _ la, keyL _ _ lb, keyL _ _ lb, keyL0 _ lb, keyL _ _ lb⟩
  · obtain ⟨o, e, r⟩ := hl; exact ⟨o, k _ _ e, r⟩
  · obtain ⟨o, e, r⟩ := hr; exact ⟨o, k _ _ e, r⟩
/-- along a zip of two lists of ints, an int an element -/
theorem go_zip {z TI TO i1 i2 a b : Addr} {vs us : List Value} {ns ms : List Nat} {Fin : Addr → (Nat → Value → Heap → Prop) → (Nat → Bool) → Nat → Prop} (hh : A.handled = none) (f : F2 IsN vs ns) (g' : F2 IsN us ms) (hlen : ms.length = ns.length) (hn : ns.length ≤ 1000) (S0 : Sm No s₀ s)
    (hnew : ∀ c ∈ [z, TI, TO, i1, i2], s₀.heap.get? c = none) (D : ZipApart z TI TO i1 i2 a b) (st : ZipSt z TI TO i1 i2 a b vs.toArray us.toArray 0 s.heap)
    (ox : scope.names.lookup x = some .local) (oy : scope.names.lookup y = some .local) (g : Nat → Nat → Nat)
    (turn : ∀ C s₃ (n m : Nat) t1 t2, (∀ b, Inter C (ncells scope) b → s₀.heap.get? b = none) → Frm H₀ (cenvK scope cl C env) (ncells scope) s₃.heap [(y, .int (m : Int) t2), (x, .int (n : Int) t1)] → Keep s₀.heap s₃.heap → Bk H₀ s₃.heap →
      wpAny (model Prg w) A (eval elt (cenvK scope cl C env)) (fun v s₆ => IsN v (g n m) ∧ Sm No s₃ s₆) (fun _ _ => False) s₃)
    (fin : ∀ D, Fin D (fun i v _ => IsN v (g (ns.getD i 0) (ms.getD i 0))) (fun _ => true) ns.length) :
    wpAny (model Prg w) A (pyIter (.ref z)) (CompGo w A H₀ env elt (.Tuple [.Name x px, .Name y py] j pt) [] scope cl s₀ Fin) E s := by
  have hsz : vs.toArray.size = ns.length := by rw [List.size_toArray]; exact f.length
  have hsz2 : us.toArray.size = vs.toArray.size := by rw [List.size_toArray, g'.length, hsz, hlen]
  refine wpAny_pyIter_zip st.1 ?_
  refine ⟨z, [z, TI, TO, i1, i2, a, b], [z, TO, i1, i2], vs.toArray.size, _, _, fun _ => true, _, rfl, Src.zip hh D hsz2, by rw [hsz]; exact hn, st, S0, fun c hc => hnew c ?_, ?_, by rw [hsz]; exact fin⟩
  · simp only [List.mem_cons, List.not_mem_nil, or_false] at hc ⊢
    rcases hc with h | h | h | h <;> simp [h]
  rintro C i v s₃ hi nC ⟨T, p, q, rfl, hT, hp, hq⟩ F S3 B
  obtain ⟨n, hn', t1, rfl⟩ := f.get' (by simpa using hp)
  obtain ⟨m, hm', t2, rfl⟩ := g'.get' (by simpa using hq)
  refine asgT2 hh F hT (.inl (lookup_relabel_local ox)) (.inl (lookup_relabel_local oy)) fun s₄ F₄ S₄ => ?_
  refine wpAny_tests_nil ⟨rfl, ?_⟩
  simp only [if_true]
  have nC0 : ∀ b, Inter C (ncells scope) b → s₀.heap.get? b = none := fun b hb => none_of_keep S0.kp (nC b hb)
  have e1 : ns.getD i 0 = n := by rw [List.getD_eq_getElem?_getD, hn']; rfl
  have e2 : ms.getD i 0 = m := by rw [List.getD_eq_getElem?_getD, hm']; rfl
  rw [e1, e2]
  refine wpAny_mono (turn C s₄ n m t1 t2 nC0 F₄ (keepF S3.kp S₄.k nC0) (B.monoX S₄.k F.off)) (fun y s₅ h₅ => ?_) fun _ _ e => e
  exact ⟨S₄.trans h₅.2.any, ⟨_, F₄.mono h₅.2.kp⟩, fun h' _ => h₅.1⟩
theorem made_zip {g : Nat → Nat → Nat} {ns ms : List Nat} {h h₁ : Heap} {D : Addr} (m : Made (fun i v _ => IsN v (g (ns.getD i 0) (ms.getD i 0))) (fun _ => true) ns.length h h₁ D) (hl : ms.length = ns.length) : IsNats h₁ D (List.zipWith g ns ms) := by
  have := made_nats (g := fun i => g (ns.getD i 0) (ms.getD i 0)) m
  rw [filter_true] at this
  have e : (List.range ns.length).map (fun i => g (ns.getD i 0) (ms.getD i 0)) = List.zipWith g ns ms := by
    apply List.ext_getElem
    · simp [hl]
    · intro i h1 h2
      have hi : i < ns.length := by simpa using h1
      have hi2 : i < ms.length := by omega
      simp [List.getD_eq_getElem?_getD, List.getElem?_eq_getElem hi, List.getElem?_eq_getElem hi2]
  rwa [e] at this
end
end Mine
end
/-! text L13 -/
section
open PySem PySem.Calls PySem.W PyProof.Rows
namespace Mine
section
variable {w : World} {A : Around} {E : Value → Shared → Prop} {s : Shared} {env : Env} {e1 e2 : Expr} {pos : Pos} {k : Nat} {Q : Value → Shared → Prop}
theorem tup2W (h : wpAny (model Prg w) A (eval e1 env) (fun v1 s₁ => wpAny (model Prg w) A (eval e2 env) (fun v2 s₂ => ∀ b s', s₂.heap.get? b = none → s'.heap.IsTuple b #[v1, v2] → Sm No s₂ s' → Q (.ref b) s') E s₁) E s)
    (he : starEach [e1, e2] env = (false, eval e1 env) :: starEach [e2] env := by rfl) (he1 : starEach [e2] env = [(false, eval e2 env)] := by rfl) : wpAny (model Prg w) A (eval (.Tuple [e1, e2] k pos) env) Q E s := by
  refine wpAny_Tuple (items2 (wpAny_mono h (fun v1 s₁ h₁ => wpAny_mono h₁ (fun v2 s₂ h₂ => ⟨?_, ?_⟩) fun _ _ x => x) fun _ _ x => x) he he1)
  · show (2 : Nat) ≤ sizeLine; rw [sizeLine_eq]; decide
  · exact h₂ _ _ new_of_size ⟨_, Heap.get?_push_size _ rfl, rfl, _, rfl⟩ (Sm.of (Keep.push _))
/-- a display of two ints -/
theorem list2N {a b : Nat} (h1 : EvZ w A s env e1 (a : Int)) (h2 : EvZ w A s env e2 (b : Int)) (q : ∀ d s', s.heap.get? d = none → IsNats s'.heap d [a, b] → Sm No s s' → Q (.ref d) s')
    (he : starEach [e1, e2] env = (false, eval e1 env) :: starEach [e2] env := by rfl) (he1 : starEach [e2] env = [(false, eval e2 env)] := by rfl) : wpAny (model Prg w) A (eval (.List [e1, e2] pos) env) Q E s := by
  refine wpAny_List (items2 (h1.run fun tk t => h2 tk _ _ fun tk2 t2 => ⟨?_, ?_⟩) he he1)
  · show (2 : Nat) ≤ sizeLine; rw [sizeLine_eq]; decide
  · exact q _ _ new_of_size ⟨[.int (a : Int) t, .int (b : Int) t2], ⟨_, Heap.get?_push_size _ rfl, rfl, _, rfl⟩, .cons ⟨_, rfl⟩ (.cons ⟨_, rfl⟩ .nil)⟩ ⟨fun c o _ e => Heap.get?_push_of_some _ e, rfl, rfl⟩
theorem sliceN {value low : Expr} {p : Pos} {l : Addr} {ns : List Nat} {a : Nat} (h : EvV w A s env value (.ref l)) (hl : IsNats s.heap l ns) (ha : a ≤ ns.length) (hn : ns.length ≤ 1000) (ea : EvZ w A s env low (a : Int))
    (q : ∀ b s', s.heap.get? b = none → IsNats s'.heap b (ns.drop a) → Sm No s s' → Q (.ref b) s')
    (ht : ∀ o r, letTemporaryGo value o r = pure () := by intro _ _; rfl) : wpAny (model Prg w) A (eval (.Subscript value (.Slice (some low) none none p) pos) env) Q E s := by
  obtain ⟨vs, hl, f⟩ := hl
  exact sliceV h hl (by rw [f.length]; exact ha) (by rw [f.length]; exact hn) ea (fun b s' nb hb S => q b s' nb ⟨_, hb, f.drop a⟩ S) ht
end
def PairsAt (h : Heap) (Us : List Addr) (ps : List (List Nat × List Nat)) : Prop := F2 (fun U p => ∃ v d, h.IsTuple U #[.ref v, .ref d] ∧ IsNats h v p.1 ∧ IsNats h d p.2) Us ps
theorem PairsAt.keep {h h' : Heap} {Us : List Addr} {ps : List (List Nat × List Nat)} (x : PairsAt h Us ps) (k : KeepS h h') : PairsAt h' Us ps := x.imp fun _ _ ⟨v, d, a, b, c⟩ => ⟨v, d, istup_keep a k, b.keep k, c.keep k⟩
open Float64 in
theorem cmp_self {x : UInt64} (h : isNaN x = false) : cmp x x = some .eq := by
  unfold Float64.cmp
  unfold Float64.isNaN at h
  cases d : decode x with
  | nan => rw [d] at h; cases h
  | inf a => simp [compare, compareOfLessAndEq]
  | fin a m e => simp [align, compare, compareOfLessAndEq]
open Float64 in
theorem div_same {f y D : UInt64} {z : Int} {n : Nat} (hf : FV f z) (hy : FV y z) (hD : FV D ((n : Int) * 2 ^ 30)) (hn : 0 < n) : cmp (div f D) (div y D) = some .eq := by
  by_cases hz : z = 0
  · subst hz
    have h1 := FV.div hf hD (by omega) (c := 0) (by omega) (by decide)
    have h2 := FV.div hy hD (by omega) (c := 0) (by omega) (by decide)
    rw [h1.cmp h2]; rfl
  · rw [FV.uniq hf hy hz]
    refine cmp_self ?_
    obtain ⟨sa, m, e, dx, vx, a1, a2, nx⟩ := hy.dec
    obtain ⟨sb, k, g, dy, vy, b1, b2, ny⟩ := hD.dec
    have hk : k ≠ 0 := fun h => by
      have := val_natAbs dy
      rw [ny, h, Nat.zero_mul] at this
      rcases Nat.mul_eq_zero.mp this with q | q
      · omega
      · have := PW_pos; omega
    obtain ⟨t, ht, hle, _⟩ := div_right dx dy hk
    rw [ht]
    exact isNaN_pack _ hle
theorem div_ints {w : World} {A : Around} {E Q : Value → Shared → Prop} {s : Shared} {a b z : Int} {t u : Tok} (hh : A.handled = none) (hb : 0 < b) (ha : a.natAbs < 2 ^ 60) (e : a * 2 ^ 30 = z * b) (hz : z.natAbs < 2 ^ 53)
    (h : ∀ y t tk, FV y z → Q (.float y t) { s with toks := tk }) : wpAny (model Prg w) A (binaryOp .Div (.int a t) (.int b u)) Q E s := by
  refine PySem.Flt.div_ii_fits hh (Nat.lt_of_lt_of_le ha (Nat.pow_le_pow_right (by decide) (by decide))) (fun q => absurd q (by omega)) fun _ _ => h _ _ _ ?_
  have d : decide (b < 0) = false := decide_eq_false (by omega)
  rw [d]
  have x : ∀ c : Bool, (c != false) = c := fun c => by cases c <;> rfl
  rw [x]
  refine FV.ofFrac (by omega) ?_ hz ?_ ?_
  · have := congrArg Int.natAbs e
    rw [Int.natAbs_mul, Int.natAbs_mul] at this
    exact this
  · intro q
    refine decide_eq_true ?_
    have := Int.mul_neg_of_neg_of_pos q hb
    omega
  · intro q
    refine decide_eq_false ?_
    have := Int.mul_pos q hb
    omega
theorem cov_nums {n : Nat} {m1 m2 m3 zc : Int} (hn : n = 16 ∨ n = 32) (b1 : m1.natAbs ≤ 32) (b2 : m2.natAbs ≤ 32) (b3 : m3.natAbs ≤ 64) (gc : ((n : Int) * m3 - m1 * m2) * 2 ^ 30 = zc * (4 * (n : Int))) :
    zc.natAbs < 2 ^ 53 ∧ ((n : Int) * m3 - m1 * m2).natAbs < 2 ^ 60 := by
  have hab : ∀ {a b : Int} {M : Nat}, a.natAbs ≤ M → b.natAbs ≤ M → (a * b).natAbs ≤ M * M := fun h1 h2 => by
    rw [Int.natAbs_mul]; exact Nat.mul_le_mul h1 h2
  have p1 : ((n : Int) * m3).natAbs ≤ 64 * 64 := hab (by omega) b3
  have p2 : (m1 * m2).natAbs ≤ 32 * 32 := hab b1 b2
  generalize (n : Int) * m3 = P1 at *
  generalize m1 * m2 = P2 at *
  rcases hn with rfl | rfl <;> exact ⟨by omega, by omega⟩
end Mine
end
/-! text D14 -/
section
open PySem PySem.Calls PySem.W PyProof.Rows
namespace Mine
abbrev IsI (v : Value) (z : Int) : Prop := ∃ t, v = .int z t
theorem f2_ints : ∀ {vs : List Value} {zs : List Int}, IntsAre vs zs → F2 IsI vs zs
  | _, _, .nil => .nil
  | _, _, .cons _ t r => .cons ⟨t, rfl⟩ (f2_ints r)
theorem f2_natsI : ∀ {vs : List Value} {ns : List Nat}, F2 IsN vs ns → F2 IsI vs (ns.map Int.ofNat)
  | _, _, .nil => .nil
  | _, _, .cons h r => .cons h (f2_natsI r)
def padN : List Nat := [80, 75, 5, 6]
def wordsN (zs : List Int) : List Nat := ((zs.take 5) ++ (padN.drop (zs.take 5).length).map Int.ofNat).map fun z => (z.fmod 4294967296).toNat
def leadOf (ws made : List Nat) : Int := leadN ws.length (diagN (oddRows ws made) ws.length) (symN (oddRows ws made) ws.length) 1
def firstN (ws : List Nat) : List Nat := (sumsN ws).map crcN
def secondN (ws : List Nat) : List Nat := (firstN ws).map crcN
def onceN (ws : List Nat) : List Nat := ws.map restN
def twiceN (ws : List Nat) : List Nat := (onceN ws).map restN
def rowN (ws mades : List Nat) : List Nat := List.zipWith (fun a b => oddN (a &&& b)) (sumsN ws) mades
def bothN (ws : List Nat) : List Nat := List.zipWith (fun a b => a ^^^ b) (onceN ws) (twiceN ws)
def lowOf (more : Int) : Nat := if 0 ≤ more then 0 else 1
def highOf (more : Int) : Nat := if 0 < more then 0 else 1
def votesN (row : List Nat) (more : Int) : List (List Nat × List Nat) := [(row, [lowOf more, highOf more]), (row.drop 1, [highOf more, highOf more]), (row ++ [0], [lowOf more, lowOf more]), (row ++ [0, 0], [lowOf more, lowOf more]), (row ++ [1, 1], [highOf more, highOf more])]
structure RowOk (n : Nat) (row : List Nat) (more : Int) : Prop where
  len : row.length = n
  bits : ∀ x ∈ row, x ≤ 1
  sum : (n : Int) - more = 2 * ((row.sum : Nat) : Int)
  meds : ∀ p ∈ votesN row more, p.2 = [midN p.1 (lowI p.1.length), midN p.1 (p.1.length / 2)]
structure GoodWs (ws : List Nat) : Prop where
  len : ws.length = 4 ∨ ws.length = 5
  first : firstN ws = sumsN (onceN ws)
  second : secondN ws = sumsN (twiceN ws)
  row1 : RowOk (sumsN ws).length (rowN ws (firstN ws)) (leadOf ws (onceN ws))
  row2 : RowOk (sumsN ws).length (rowN ws (secondN ws)) (leadOf ws (twiceN ws))
  cov : (((sumsN ws).length : Int) * leadOf ws (bothN ws) - leadOf ws (onceN ws) * leadOf ws (twiceN ws)) * 2 ^ 30 = psum (covP (rowN ws (firstN ws)) (rowN ws (secondN ws))) (sumsN ws).length * (4 * ((sumsN ws).length : Int))
  covb : (leadOf ws (bothN ws)).natAbs ≤ 64
theorem u64 {A : Around} {k : Nat} (R : Rm A k) : A.units + 64 < cLine := by have := R.un; omega
theorem sz {n k : Nat} (h : k = n) (hn : n = 16 ∨ n = 32) : 1 ≤ k ∧ k ≤ 1000 ∧ k + 1 ≤ 1000 ∧ k + 2 ≤ 1000 ∧ 0 < k ∧ k ≤ 900 := by omega
theorem sz_votes {n : Nat} {rown : List Nat} {m : Int} (hrl : rown.length = n) (hn : n = 16 ∨ n = 32) (hb : ∀ x ∈ rown, x ≤ 1) : ∀ pr ∈ votesN rown m, 0 < pr.1.length ∧ pr.1.length < 64 ∧ ∀ x ∈ pr.1, x ≤ 1 := fun pr hin => by
  have ha : ∀ l : List Nat, l.length ≤ 2 → (∀ x ∈ l, x ≤ 1) → 0 < (rown ++ l).length ∧ (rown ++ l).length < 64 ∧ ∀ x ∈ rown ++ l, x ≤ 1 := fun l h1 h2 => by
    rw [List.length_append]
    refine ⟨by omega, by omega, fun x hx => ?_⟩
    rcases List.mem_append.mp hx with q | q
    · exact hb x q
    · exact h2 x q
  simp only [votesN, List.mem_cons, List.not_mem_nil, or_false] at hin
  rcases hin with rfl | rfl | rfl | rfl | rfl
  · exact ⟨by show 0 < rown.length; omega, by show rown.length < 64; omega, hb⟩
  · exact ⟨by show 0 < (rown.drop 1).length; rw [List.length_drop]; omega, by show (rown.drop 1).length < 64; rw [List.length_drop]; omega, fun x hx => hb x (List.mem_of_mem_drop hx)⟩
  · exact ha _ (by decide) (by decide)
  · exact ha _ (by decide) (by decide)
  · exact ha _ (by decide) (by decide)
theorem nums16 {n : Nat} (hn : n = 16 ∨ n = 32) : (n : Int).natAbs < 2 ^ 60 ∧ 0 < 2 * (n : Int) ∧ 0 < 4 * (n : Int) ∧ (n : Int) - 1 = ((n - 1 : Nat) : Int) ∧ 0 < n - 1 ∧ n - 1 < 2 ^ 20 ∧ (((n - 1 : Nat) : Int)).natAbs < 2 ^ 23 := by omega
theorem lead_b {n k c : Nat} {m : Int} (w : (n : Int) - m = 2 * (c : Int)) (u : c ≤ k) (g : k = n) (hn : n = 16 ∨ n = 32) : m.natAbs ≤ 32 ∧ ((n : Int) - m).natAbs < 2 ^ 60 := by omega
theorem half_eq {n K c : Nat} (hK : n = 16 ∧ K = 2 ^ 26 ∨ n = 32 ∧ K = 2 ^ 25) : 2 * (c : Int) * 2 ^ 30 = ((c : Int) * K) * (2 * (n : Int)) := by
  rcases hK with ⟨e, e'⟩ | ⟨e, e'⟩ <;> rw [e, e'] <;> omega
theorem half_lt {n K c : Nat} (hK : n = 16 ∧ K = 2 ^ 26 ∨ n = 32 ∧ K = 2 ^ 25) (h : c ≤ n) : ((c : Int) * K).natAbs < 2 ^ 53 := by
  rcases hK with ⟨e, e'⟩ | ⟨e, e'⟩ <;> rw [e'] <;> omega
section
variable {w : World} {A : Around} {E : Value → Shared → Prop} {s : Shared} {H₀ : Heap} {mg mb : Str → Option Value}
set_option maxHeartbeats 4000000 in
theorem law_spec {a : Addr} {vs : List Value} {zs : List Int} {Q : Value → Shared → Prop} (G : Gx w H₀ mg mb) (B : Bk H₀ s.heap) (R : Rm A 8) (hl : s.heap.IsList a vs.toArray) (hz : F2 IsI vs zs) (hlen : zs.length ≤ 63) (good : GoodWs (wordsN zs))
    (h : ∀ s', KeepX (fun b => b = 79) s.heap s'.heap → ExtT s.heap s'.heap → s'.os = s.os → ((∀ y ∈ s.gens, y.bare = true) → ∀ y ∈ s'.gens, y.bare = true) → Q (.bool true) s') : wpAny (model Prg w) A (call (.ref 127) [.ref a]) Q E s := by
  refine call_own (args := ⟨[.ref a], []⟩) (binds := [(Str.ofString "script", .ref a)]) (nms := [Str.ofString "script"]) G B (R.le (by decide : 8 ≤ 8)) (by with_unfolding_all rfl) (by with_unfolding_all rfl) (BindsTo.of_eq rfl) rfl rfl (by decide) (by decide) rfl rfl rfl ?_
  intro s₁ F S B₁ R₁
  generalize Around.deeper A _ = A₁ at R₁ ⊢
  have hl1 := islist_keep hl S.kp.toS
  have hvl : vs.length = zs.length := hz.length
  generalize hws : wordsN zs = ws at good
  refine wpAny_execs_cons ?_
  refine asComp (cl := []) F (by with_unfolding_all rfl) rfl fsi_bin (by with_unfolding_all rfl) rfl (by decide) (by decide) (fun _ _ h => by cases h) B₁ ?_
  refine wpAny_BinOp ?_
  refine sliceTo (.loc F rfl) hl1 (by omega) (.kn 5) fun d₁ s₂ nd₁ hd₁ S₂ => ?_
  have F₂ := F.mono S₂.kp
  have hl2 := islist_keep hl1 S₂.kp.toS
  refine sliceR ?_
  with_reducible refine list_ints (ns := padN) ?_ ?_ ?_
  · exact .cons _ rfl (.cons _ rfl (.cons _ rfl (.cons _ rfl .nil)))
  · decide
  intro d₂ s₃ nd₂ hd₂ S₃
  have F₃ := F₂.mono S₃.kp
  have B₃ : Bk H₀ s₃.heap := (B₁.mono S₂.kp).mono S₃.kp
  have hl3 := islist_keep hl2 S₃.kp.toS
  refine wpAny_evalPart_some ?_
  refine callBl (by with_unfolding_all rfl) (by boot_fast) G B₃ rfl rfl rfl (items1 ?_)
  refine sliceTo (.loc F₃ rfl) hl3 (by omega) (.kn 5) fun d₃ s₄ nd₃ hd₃ S₄ => ?_
  refine Calls.call_len_list hd₃ (by rw [List.size_toArray, List.length_take]; omega) (wpAny_evalPart_none ?_)
  obtain ⟨us, hd₂, fu⟩ := hd₂
  refine ⟨d₂, us.toArray, some (((vs.take 5).toArray.size : Nat) : Int), none, rfl, islist_keep hd₂ S₄.kp.toS, by rw [List.size_toArray, fu.length, sizeLine_eq]; decide, .int _ _, .none, fun d₄ s₅ nd₄ hd₄ S₅ => ?_⟩
  rw [slicePick_from'] at hd₄
  have S₅ : Sm No s₄ s₅ := S₅
  have S25 : Sm No s₂ s₅ := sm_trans S₃ (sm_trans S₄ S₅)
  have hd₄ : s₅.heap.IsList d₄ (us.drop (vs.take 5).toArray.size).toArray := by simpa using hd₄
  refine opCatV (islist_keep hd₁ S25.kp.toS) hd₄ (by rw [List.length_drop, List.length_take, fu.length]; simp only [padN, List.length_cons, List.length_nil]; omega) fun d₅ s₆ nd₅ hd₅ S₆ => ?_
  have S16 : Sm No s₁ s₆ := sm_trans S₂ (sm_trans S25 S₆)
  have fz : F2 IsI (vs.take 5 ++ us.drop (vs.take 5).toArray.size) ((zs.take 5) ++ (padN.drop (zs.take 5).length).map Int.ofNat) := by
    have e : (vs.take 5).toArray.size = (zs.take 5).length := by rw [List.size_toArray]; exact (hz.take 5).length
    rw [e]
    exact (hz.take 5).append (f2_natsI (fu.drop _))
  generalize hzz : (zs.take 5) ++ (padN.drop (zs.take 5).length).map Int.ofNat = zz at fz
  have hws' : zz.map (fun z => (z.fmod 4294967296).toNat) = ws := by rw [← hzz, ← hws]; rfl
  have hzl : zz.length = ws.length := by rw [← hws', List.length_map]
  have hwl : ws.length ≤ 5 := by rcases good.len with e | e <;> omega
  refine go_list R₁.hd hd₅ (by rw [fz.length]; omega) S16 (fun _ => true) (fun i v _ => IsN v (ws.getD i 0)) (fun C i v s₇ hv nC F₇ k₇ B₇ => ?_) fun W s₇ nW F₇ S₇ m₇ => ?_
  · obtain ⟨z, hz', t, rfl⟩ := fz.get' hv
    refine asgN F₇ (.inl rfl) fun s₈ F₈ S₈ => ?_
    refine wpAny_tests_nil ⟨rfl, ?_⟩
    simp only [if_true]
    have e1 : ws.getD i 0 = (z.fmod 4294967296).toNat := by
      rw [List.getD_eq_getElem?_getD, ← hws', List.getElem?_map, hz']; rfl
    refine EvZ.run (EvZ.mod (.loc F₈ rfl) (.pow2 (.kn 2) (.kn 32) (by decide)) (by decide)) fun tk t => ⟨S₈, ⟨_, F₈⟩, fun h' _ => ⟨t, ?_⟩⟩
    rw [e1]
    have : 0 ≤ z.fmod 4294967296 := Int.fmod_nonneg_of_pos _ (by decide)
    have e2 : ((2 ^ 32 : Nat) : Int) = 4294967296 := by decide
    rw [e2]
    congr 1
    exact (Int.toNat_of_nonneg this).symm
  have hW : IsNats s₇.heap W ws := by
    have := made_nats (g := fun i => ws.getD i 0) m₇
    rw [filter_true, fz.length, hzl, range_map_getD ws 0 (fun x => x), List.map_id'] at this
    exact this
  have B₇ : Bk H₀ s₇.heap := B₁.monoX S₇.k fun b hb => frame_new B hb.1
  -- sums
  refine wpAny_execs_cons ?_
  refine asF H₀ 0 ?_
  refine callDf (a := 117) (by with_unfolding_all rfl) (by with_unfolding_all rfl) G B₇ rfl rfl (items1 (evL F₇ rfl ⟨B₇, ?_⟩))
  refine sums_spec G B₇ (R₁.le (by decide)) hW hwl fun Su s₈ nSu hSu S₈ => ⟨_, F₇.mono S₈.kp, fun s₉ F₉ S₉ => ?_⟩
  have S79 : Sm (Inter s.heap.objs.size 0) s₇ s₉ := S₈.any.trans S₉
  have S19 : Sm (Inter s.heap.objs.size 0) s₁ s₉ := S₇.trans S79
  have B₉ : Bk H₀ s₉.heap := B₁.monoX S19.k fun b hb => frame_new B hb.1
  replace hW := hW.keep (F₇.keepS S79.k)
  replace hSu := hSu.keep ((F₇.mono S₈.kp).keepS S₉.k)
  have hSl : (sumsN ws).length = 2 ^ ws.length := by unfold sumsN; rw [sums_len]; simp
  have hSn : (sumsN ws).length = 16 ∨ (sumsN ws).length = 32 := by rcases good.len with e | e <;> rw [hSl, e] <;> decide
  -- size
  refine wpAny_execs_cons (asZ F₉ (EvZ.lenN G B₉ rfl rfl rfl (.loc F₉ rfl) hSu (by omega)) fun s₁₀ t₁₀ F₁₀ S₁₀ => ?_)
  have S1_10 := S19.trans S₁₀
  have B₁₀ : Bk H₀ s₁₀.heap := B₁.monoX S1_10.k fun b hb => frame_new B hb.1
  replace hW := hW.keep (F₉.keepS S₁₀.k)
  replace hSu := hSu.keep (F₉.keepS S₁₀.k)
  -- first
  refine wpAny_execs_cons ?_
  refine asComp (cl := []) F₁₀ (by with_unfolding_all rfl) rfl fsi_name (by with_unfolding_all rfl) rfl (by decide) (by decide) (fun _ _ h => by cases h) B₁₀ ?_
  refine evL F₁₀ rfl ?_
  refine go_nats R₁.hd hSu (by omega) (Sm.refl _ _) rfl crcN (fun C s₃ n t hn nC F₃ k₃ B₃ => ?_) fun Fi s₁₁ nFi F₁₁ S₁₁ m₁₁ => ?_
  · refine callDf (a := 91) (by with_unfolding_all rfl) (by with_unfolding_all rfl) G B₃ rfl rfl (items1 (evL F₃ rfl ⟨B₃, ?_⟩))
    exact crc_spec G B₃ (R₁.le (by decide)) fun v s' hv S' => ⟨hv, S'⟩
  have hFi : IsNats s₁₁.heap Fi (firstN ws) := made_map (g := crcN) m₁₁
  have S1_11 := S1_10.trans S₁₁
  have B₁₁ : Bk H₀ s₁₁.heap := B₁.monoX S1_11.k fun b hb => frame_new B hb.1
  replace hW := hW.keep (F₁₀.keepS S₁₁.k)
  replace hSu := hSu.keep (F₁₀.keepS S₁₁.k)
  have hFl : (firstN ws).length = (sumsN ws).length := by unfold firstN; rw [List.length_map]
  -- second
  refine wpAny_execs_cons ?_
  refine asComp (cl := []) F₁₁ (by with_unfolding_all rfl) rfl fsi_name (by with_unfolding_all rfl) rfl (by decide) (by decide) (fun _ _ h => by cases h) B₁₁ ?_
  refine evL F₁₁ rfl ?_
  refine go_nats R₁.hd hFi (by omega) (Sm.refl _ _) rfl crcN (fun C s₃ n t hn nC F₃ k₃ B₃ => ?_) fun Se s₁₂ nSe F₁₂ S₁₂ m₁₂ => ?_
  · refine callDf (a := 91) (by with_unfolding_all rfl) (by with_unfolding_all rfl) G B₃ rfl rfl (items1 (evL F₃ rfl ⟨B₃, ?_⟩))
    exact crc_spec G B₃ (R₁.le (by decide)) fun v s' hv S' => ⟨hv, S'⟩
  have hSe : IsNats s₁₂.heap Se (secondN ws) := made_map (g := crcN) m₁₂
  have S1_12 := S1_11.trans S₁₂
  have B₁₂ : Bk H₀ s₁₂.heap := B₁.monoX S1_12.k fun b hb => frame_new B hb.1
  replace hW := hW.keep (F₁₁.keepS S₁₂.k)
  replace hSu := hSu.keep (F₁₁.keepS S₁₂.k)
  replace hFi := hFi.keep (F₁₁.keepS S₁₂.k)
  have hSel : (secondN ws).length = (sumsN ws).length := by unfold secondN; rw [List.length_map, hFl]
  -- once
  refine wpAny_execs_cons ?_
  refine asComp (cl := []) F₁₂ (by with_unfolding_all rfl) rfl fsi_name (by with_unfolding_all rfl) rfl (by decide) (by decide) (fun _ _ h => by cases h) B₁₂ ?_
  refine evL F₁₂ rfl ?_
  refine go_nats R₁.hd hW (by omega) (Sm.refl _ _) rfl restN (fun C s₃ n t hn nC F₃ k₃ B₃ => ?_) fun On s₁₃ nOn F₁₃ S₁₃ m₁₃ => ?_
  · refine callDf (a := 105) (by with_unfolding_all rfl) (by with_unfolding_all rfl) G B₃ rfl rfl (items1 (evL F₃ rfl ⟨B₃, ?_⟩))
    exact rest_spec G B₃ (R₁.le (by decide)) fun v s' hv S' => ⟨hv, S'⟩
  have hOn : IsNats s₁₃.heap On (onceN ws) := made_map (g := restN) m₁₃
  have S1_13 := S1_12.trans S₁₃
  have B₁₃ : Bk H₀ s₁₃.heap := B₁.monoX S1_13.k fun b hb => frame_new B hb.1
  replace hW := hW.keep (F₁₂.keepS S₁₃.k)
  replace hSu := hSu.keep (F₁₂.keepS S₁₃.k)
  replace hFi := hFi.keep (F₁₂.keepS S₁₃.k)
  replace hSe := hSe.keep (F₁₂.keepS S₁₃.k)
  have hOl : (onceN ws).length = ws.length := by unfold onceN; rw [List.length_map]
  -- twice
  refine wpAny_execs_cons ?_
  refine asComp (cl := []) F₁₃ (by with_unfolding_all rfl) rfl fsi_name (by with_unfolding_all rfl) rfl (by decide) (by decide) (fun _ _ h => by cases h) B₁₃ ?_
  refine evL F₁₃ rfl ?_
  refine go_nats R₁.hd hOn (by omega) (Sm.refl _ _) rfl restN (fun C s₃ n t hn nC F₃ k₃ B₃ => ?_) fun Tw s₁₄ nTw F₁₄ S₁₄ m₁₄ => ?_
  · refine callDf (a := 105) (by with_unfolding_all rfl) (by with_unfolding_all rfl) G B₃ rfl rfl (items1 (evL F₃ rfl ⟨B₃, ?_⟩))
    exact rest_spec G B₃ (R₁.le (by decide)) fun v s' hv S' => ⟨hv, S'⟩
  have hTw : IsNats s₁₄.heap Tw (twiceN ws) := made_map (g := restN) m₁₄
  have S1_14 := S1_13.trans S₁₄
  have B₁₄ : Bk H₀ s₁₄.heap := B₁.monoX S1_14.k fun b hb => frame_new B hb.1
  replace hW := hW.keep (F₁₃.keepS S₁₄.k)
  replace hSu := hSu.keep (F₁₃.keepS S₁₄.k)
  replace hFi := hFi.keep (F₁₃.keepS S₁₄.k)
  replace hSe := hSe.keep (F₁₃.keepS S₁₄.k)
  replace hOn := hOn.keep (F₁₃.keepS S₁₄.k)
  have hTl : (twiceN ws).length = ws.length := by unfold twiceN; rw [List.length_map, hOl]
  -- the two comparisons
  refine wpAny_execs_cons (wpAny_If (wpAny_isTrue_BoolOp ?_))
  refine wpAny_allTrue_Or_cons ?_
  refine wpAny_isTrue_Compare1 (evL F₁₄ rfl ?_) (by with_unfolding_all rfl)
  refine callDf (a := 117) (by with_unfolding_all rfl) (by with_unfolding_all rfl) G B₁₄ rfl rfl (items1 (evL F₁₄ rfl ⟨B₁₄, ?_⟩))
  refine sums_spec G B₁₄ (R₁.le (by decide)) hOn (by omega) fun So s₁₅ nSo hSo S₁₅ => ?_
  refine neL (hFi.keep S₁₅.kp.toS) hSo (u64 R₁) (wpAny_truthy_bool ?_)
  rw [show (!decide (firstN ws = sumsN (onceN ws))) = false by rw [good.first]; simp]
  simp only [Bool.false_eq_true, if_false]
  have F₁₅ := F₁₄.mono S₁₅.kp
  have B₁₅ := B₁₄.mono S₁₅.kp
  replace hTw := hTw.keep S₁₅.kp.toS
  refine wpAny_allTrue_Or_cons ?_
  refine wpAny_isTrue_Compare1 (evL F₁₅ rfl ?_) (by with_unfolding_all rfl)
  refine callDf (a := 117) (by with_unfolding_all rfl) (by with_unfolding_all rfl) G B₁₅ rfl rfl (items1 (evL F₁₅ rfl ⟨B₁₅, ?_⟩))
  refine sums_spec G B₁₅ (R₁.le (by decide)) hTw (by omega) fun Sp s₁₆ nSp hSp S₁₆ => ?_
  have S14_16 : Sm No s₁₄ s₁₆ := sm_trans S₁₅ S₁₆
  refine neL (hSe.keep S14_16.kp.toS) hSp (u64 R₁) (wpAny_truthy_bool ?_)
  rw [show (!decide (secondN ws = sumsN (twiceN ws))) = false by rw [good.second]; simp]
  simp only [Bool.false_eq_true, if_false]
  refine wpAny_allTrue_Or_nil ?_
  refine wpAny_execs_nil ?_
  have F₁₆ := F₁₅.mono S₁₆.kp
  have S1_16 : Sm (Inter s.heap.objs.size 0) s₁ s₁₆ := S1_14.trans S14_16.any
  have B₁₆ : Bk H₀ s₁₆.heap := B₁₅.mono S₁₆.kp
  replace hW := hW.keep S14_16.kp.toS
  replace hSu := hSu.keep S14_16.kp.toS
  replace hFi := hFi.keep S14_16.kp.toS
  replace hSe := hSe.keep S14_16.kp.toS
  replace hOn := hOn.keep S14_16.kp.toS
  replace hTw := hTw.keep S₁₆.kp.toS
  -- marks
  refine wpAny_execs_cons ?_
  refine asComp (cl := []) F₁₆ (by with_unfolding_all rfl) rfl fsi_call (by with_unfolding_all rfl) rfl (by decide) (by decide) (fun _ _ h => by cases h) B₁₆ ?_
  refine callT (by with_unfolding_all rfl) (by boot_fast) G B₁₆ rfl rfl rfl (items2 (evL F₁₆ rfl (evL F₁₆ rfl ?_)))
  obtain ⟨v1, k1, f1⟩ := id hSu
  obtain ⟨v2, k2, f2⟩ := id hFi
  refine zip_call (elts := []) (x1 := 0) (pos := default) k1 k2 fun z TI TO i1 i2 s₁₇ hnew D st S₁₇ => ?_
  refine go_zip R₁.hd f1 f2 hFl (by omega) S₁₇ hnew D st rfl rfl (fun a b => oddN (a &&& b)) (fun C s₃ n m t1 t2 nC F₃ k₃ B₃ => ?_) fun Ma s₁₈ nMa F₁₈ S₁₈ m₁₈ => ?_
  · refine callDf (a := 112) (by with_unfolding_all rfl) (by with_unfolding_all rfl) G B₃ rfl rfl (items1 ?_)
    refine (EvZ.and (.loc F₃ rfl) (.loc F₃ rfl)).run fun tk t => ⟨B₃, odd_spec G B₃ (R₁.le (by decide)) fun v s' hv S' => ⟨hv, S'⟩⟩
  have hMa : IsNats s₁₈.heap Ma (rowN ws (firstN ws)) := made_zip (g := fun a b => oddN (a &&& b)) m₁₈ hFl
  have S1_18 := S1_16.trans S₁₈
  have B₁₈ : Bk H₀ s₁₈.heap := B₁.monoX S1_18.k fun b hb => frame_new B hb.1
  replace hW := hW.keep (F₁₆.keepS S₁₈.k)
  replace hSu := hSu.keep (F₁₆.keepS S₁₈.k)
  replace hSe := hSe.keep (F₁₆.keepS S₁₈.k)
  replace hOn := hOn.keep (F₁₆.keepS S₁₈.k)
  replace hTw := hTw.keep (F₁₆.keepS S₁₈.k)
  -- others
  refine wpAny_execs_cons ?_
  refine asComp (cl := []) F₁₈ (by with_unfolding_all rfl) rfl fsi_call (by with_unfolding_all rfl) rfl (by decide) (by decide) (fun _ _ h => by cases h) B₁₈ ?_
  refine callT (by with_unfolding_all rfl) (by boot_fast) G B₁₈ rfl rfl rfl (items2 (evL F₁₈ rfl (evL F₁₈ rfl ?_)))
  obtain ⟨v3, k3, f3⟩ := id hSu
  obtain ⟨v4, k4, f4⟩ := id hSe
  refine zip_call (elts := []) (x1 := 0) (pos := default) k3 k4 fun z TI TO i1 i2 s₁₉ hnew D st S₁₉ => ?_
  refine go_zip R₁.hd f3 f4 hSel (by omega) S₁₉ hnew D st rfl rfl (fun a b => oddN (a &&& b)) (fun C s₃ n m t1 t2 nC F₃ k₃ B₃ => ?_) fun Ot s₂₀ nOt F₂₀ S₂₀ m₂₀ => ?_
  · refine callDf (a := 112) (by with_unfolding_all rfl) (by with_unfolding_all rfl) G B₃ rfl rfl (items1 ?_)
    refine (EvZ.and (.loc F₃ rfl) (.loc F₃ rfl)).run fun tk t => ⟨B₃, odd_spec G B₃ (R₁.le (by decide)) fun v s' hv S' => ⟨hv, S'⟩⟩
  have hOt : IsNats s₂₀.heap Ot (rowN ws (secondN ws)) := made_zip (g := fun a b => oddN (a &&& b)) m₂₀ hSel
  have S1_20 := S1_18.trans S₂₀
  have B₂₀ : Bk H₀ s₂₀.heap := B₁.monoX S1_20.k fun b hb => frame_new B hb.1
  replace hW := hW.keep (F₁₈.keepS S₂₀.k)
  replace hMa := hMa.keep (F₁₈.keepS S₂₀.k)
  replace hOn := hOn.keep (F₁₈.keepS S₂₀.k)
  replace hTw := hTw.keep (F₁₈.keepS S₂₀.k)
  -- lead
  refine wpAny_execs_cons ?_
  refine asF H₀ 0 ?_
  refine callDf (a := 122) (by with_unfolding_all rfl) (by with_unfolding_all rfl) G B₂₀ rfl rfl (items2 (evL F₂₀ rfl (evL F₂₀ rfl ⟨B₂₀, ?_⟩)))
  refine lead_spec G B₂₀ (R₁.le (by decide)) hW hOn hOl hwl fun tl s₂₁ S₂₁ => ⟨_, F₂₀.mono S₂₁.kp, fun s₂₂ F₂₂ S₂₂ => ?_⟩
  have S20_22 : Sm (Inter s.heap.objs.size 0) s₂₀ s₂₂ := S₂₁.any.trans S₂₂
  have S1_22 := S1_20.trans S20_22
  have B₂₂ : Bk H₀ s₂₂.heap := B₁.monoX S1_22.k fun b hb => frame_new B hb.1
  replace hW := hW.keep (F₂₀.keepS S20_22.k)
  replace hMa := hMa.keep (F₂₀.keepS S20_22.k)
  replace hOt := hOt.keep (F₂₀.keepS S20_22.k)
  replace hOn := hOn.keep (F₂₀.keepS S20_22.k)
  replace hTw := hTw.keep (F₂₀.keepS S20_22.k)
  -- other
  refine wpAny_execs_cons ?_
  refine asF H₀ 0 ?_
  refine callDf (a := 122) (by with_unfolding_all rfl) (by with_unfolding_all rfl) G B₂₂ rfl rfl (items2 (evL F₂₂ rfl (evL F₂₂ rfl ⟨B₂₂, ?_⟩)))
  refine lead_spec G B₂₂ (R₁.le (by decide)) hW hTw hTl hwl fun tl2 s₂₃ S₂₃ => ⟨_, F₂₂.mono S₂₃.kp, fun s₂₄ F₂₄ S₂₄ => ?_⟩
  have S22_24 : Sm (Inter s.heap.objs.size 0) s₂₂ s₂₄ := S₂₃.any.trans S₂₄
  have S1_24 := S1_22.trans S22_24
  have B₂₄ : Bk H₀ s₂₄.heap := B₁.monoX S1_24.k fun b hb => frame_new B hb.1
  replace hW := hW.keep (F₂₂.keepS S22_24.k)
  replace hMa := hMa.keep (F₂₂.keepS S22_24.k)
  replace hOt := hOt.keep (F₂₂.keepS S22_24.k)
  replace hOn := hOn.keep (F₂₂.keepS S22_24.k)
  replace hTw := hTw.keep (F₂₂.keepS S22_24.k)
  -- both
  refine wpAny_execs_cons ?_
  refine asF H₀ 0 ?_
  refine callDf (a := 122) (by with_unfolding_all rfl) (by with_unfolding_all rfl) G B₂₄ rfl rfl (items2 (evL F₂₄ rfl ?_))
  refine evComp (cl := []) fsi_call (by with_unfolding_all rfl) rfl (by decide) (by decide) (fun _ _ h => by cases h) rfl rfl B₂₄ ?_
  refine callT (by with_unfolding_all rfl) (by boot_fast) G B₂₄ rfl rfl rfl (items2 (evL F₂₄ rfl (evL F₂₄ rfl ?_)))
  obtain ⟨v5, k5, f5⟩ := id hOn
  obtain ⟨v6, k6, f6⟩ := id hTw
  refine zip_call (elts := []) (x1 := 0) (pos := default) k5 k6 fun z TI TO i1 i2 s₂₅ hnew D st S₂₅ => ?_
  refine go_zip R₁.hd f5 f6 (hTl.trans hOl.symm) (by omega) S₂₅ hnew D st rfl rfl (fun a b => a ^^^ b) (fun C s₃ n m t1 t2 nC F₃ k₃ B₃ => ?_) fun Bo s₂₆ nBo S₂₆ m₂₆ => ?_
  · exact (EvZ.xor (.loc F₃ rfl) (.loc F₃ rfl)).run fun tk t => ⟨⟨_, rfl⟩, Sm.refl _ _⟩
  have hBo : IsNats s₂₆.heap Bo (bothN ws) := made_zip (g := fun a b => a ^^^ b) m₂₆ (hTl.trans hOl.symm)
  have hBl : (bothN ws).length = ws.length := by unfold bothN; rw [List.length_zipWith, hOl, hTl, Nat.min_self]
  have B₂₆ := B₂₄.mono S₂₆.kp
  refine ⟨B₂₆, lead_spec G B₂₆ (R₁.le (by decide)) (hW.keep S₂₆.kp.toS) hBo hBl hwl fun tl3 s₂₇ S₂₇ => ⟨_, F₂₄.mono (sm_trans S₂₆ S₂₇).kp, fun s₂₈ F₂₈ S₂₈ => ?_⟩⟩
  have S24_28 : Sm (Inter s.heap.objs.size 0) s₂₄ s₂₈ := (sm_trans S₂₆ S₂₇).any.trans S₂₈
  have S1_28 := S1_24.trans S24_28
  have B₂₈ : Bk H₀ s₂₈.heap := B₁.monoX S1_28.k fun b hb => frame_new B hb.1
  replace hMa := hMa.keep (F₂₄.keepS S24_28.k)
  replace hOt := hOt.keep (F₂₄.keepS S24_28.k)
  obtain ⟨K, hK⟩ : ∃ K, (sumsN ws).length = 16 ∧ K = 2 ^ 26 ∨ (sumsN ws).length = 32 ∧ K = 2 ^ 25 := by
    rcases hSn with e | e
    · exact ⟨_, .inl ⟨e, rfl⟩⟩
    · exact ⟨_, .inr ⟨e, rfl⟩⟩
  generalize hn : (sumsN ws).length = n at *
  have r1 := good.row1
  have r2 := good.row2
  have gc := good.cov
  have gb := good.covb
  rw [hn] at r1 r2 gc
  generalize hm1 : leadOf ws (onceN ws) = m1 at r1 gc
  generalize hm2 : leadOf ws (twiceN ws) = m2 at r2 gc
  generalize hm3 : leadOf ws (bothN ws) = m3 at gc gb
  have hm1' : leadN ws.length (diagN (oddRows ws (onceN ws)) ws.length) (symN (oddRows ws (onceN ws)) ws.length) 1 = m1 := hm1
  have hm2' : leadN ws.length (diagN (oddRows ws (twiceN ws)) ws.length) (symN (oddRows ws (twiceN ws)) ws.length) 1 = m2 := hm2
  have hm3' : leadN ws.length (diagN (oddRows ws (bothN ws)) ws.length) (symN (oddRows ws (bothN ws)) ws.length) 1 = m3 := hm3
  rw [hm1', hm2', hm3'] at F₂₈
  generalize rowN ws (firstN ws) = row1 at *
  generalize rowN ws (secondN ws) = row2 at *
  -- the two rows
  refine wpAny_execs_cons ?_
  with_reducible refine for_list (H₀ := H₀) (k := 0) R₁.hd ?_ (hs := fsi_list)
  refine wpAny_List (items2 ?_)
  refine tup2W (evL F₂₈ rfl (evL F₂₈ rfl fun T1 s₂₉ nT1 hT1 S₂₉ => ?_))
  have F₂₉ := F₂₈.mono S₂₉.kp
  refine tup2W (evL F₂₉ rfl (evL F₂₉ rfl fun T2 s₃₀ nT2 hT2 S₃₀ => ?_))
  have S28_30 : Sm No s₂₈ s₃₀ := sm_trans S₂₉ S₃₀
  have F₃₀ := F₂₈.mono S28_30.kp
  let V : Nat → Heap → List (Str × Value) → Prop := fun _ h vals => vals.lookup (Str.ofString "size") = some (.int (n : Int) t₁₀) ∧ vals.lookup (Str.ofString "lead") = some (.int m1 tl) ∧ vals.lookup (Str.ofString "other") = some (.int m2 tl2) ∧ vals.lookup (Str.ofString "both") = some (.int m3 tl3) ∧
    vals.lookup (Str.ofString "marks") = some (.ref Ma) ∧ vals.lookup (Str.ofString "others") = some (.ref Ot) ∧ IsNats h Ma row1 ∧ IsNats h Ot row2 ∧ h.IsTuple T1 #[.ref Ma, .int m1 tl] ∧ h.IsTuple T2 #[.ref Ot, .int m2 tl2]
  have kpush : ∀ o, Keep s₃₀.heap (s₃₀.heap.push o) := fun o => Keep.push o
  refine ⟨by show (2 : Nat) ≤ sizeLine; rw [sizeLine_eq]; decide, _, #[.ref T1, .ref T2], V, rfl, ⟨_, Heap.get?_push_size _ rfl, rfl, _, rfl⟩, ⟨fun b o _ e => Heap.get?_push_of_some _ (S28_30.kp b o e), S28_30.g, S28_30.o⟩, ⟨_, F₃₀.mono (kpush _), rfl, rfl, rfl, rfl, rfl, rfl, hMa.keep (S28_30.kp.trans (kpush _)).toS, hOt.keep (S28_30.kp.trans (kpush _)).toS, istup_keep hT1 (S₃₀.kp.trans (kpush _)).toS, istup_keep hT2 (kpush _).toS⟩, ?_, ?_, ?_⟩
  · rintro i h h' vals ⟨q1, q2, q3, q4, q5, q6, q7, q8, q9, q10⟩ k
    exact ⟨q1, q2, q3, q4, q5, q6, q7.keep k, q8.keep k, istup_keep q9 k, istup_keep q10 k⟩
  · rintro i v s₃₁ vals hv F₃₁ Vi kS kX
    obtain ⟨r, rown, m, tm, T, rfl, hT, hr, ok⟩ : ∃ r rown m tm T, v = .ref T ∧ s₃₁.heap.IsTuple T #[.ref r, .int m tm] ∧ IsNats s₃₁.heap r rown ∧ RowOk n rown m := by
      obtain ⟨q1, q2, q3, q4, q5, q6, q7, q8, q9, q10⟩ := Vi
      match i, hv with
      | 0, hv => exact ⟨_, _, _, _, _, (Option.some.inj hv).symm, q9, q7, r1⟩
      | 1, hv => exact ⟨_, _, _, _, _, (Option.some.inj hv).symm, q10, q8, r2⟩
      | i + 2, hv => simp at hv
    have B₃₁ : Bk H₀ s₃₁.heap := B₂₈.monoX (KeepX.trans (S28_30.kp.toX) (KeepX.trans (kpush _).toX kX)) fun b hb => frame_new B hb.1
    refine asgT2 R₁.hd F₃₁ hT (.inl rfl) (.inl rfl) fun s₃₂ F₃₂ S₃₂ => ?_
    have Vi32 : V i s₃₂.heap vals := by
      obtain ⟨q1, q2, q3, q4, q5, q6, q7, q8, q9, q10⟩ := Vi
      have k := F₃₁.keepS S₃₂.k
      exact ⟨q1, q2, q3, q4, q5, q6, q7.keep k, q8.keep k, istup_keep q9 k, istup_keep q10 k⟩
    have hr32 := hr.keep (F₃₁.keepS S₃₂.k)
    have B₃₂ : Bk H₀ s₃₂.heap := B₃₁.monoX S₃₂.k fun b hb => frame_new B hb.1
    have hlow : (if decide (0 ≤ m) then (0 : Int) else 1) = ((lowOf m : Nat) : Int) := by unfold lowOf; by_cases q : 0 ≤ m <;> simp [q]
    have hhigh : (if decide (0 < m) then (0 : Int) else 1) = ((highOf m : Nat) : Int) := by unfold highOf; by_cases q : 0 < m <;> simp [q]
    refine wpAny_execs_cons (asZ F₃₂ (EvZ.cast (EvZ.ife (.ge (.loc F₃₂ rfl) (.kz 0)) (fun _ => .kz 0) fun _ => .kz 1) hlow) fun s₃₃ tlo F₃₃ S₃₃ => ?_)
    refine wpAny_execs_cons (asZ F₃₃ (EvZ.cast (EvZ.ife (.gt (.loc F₃₃ rfl) (.kz 0)) (fun _ => .kz 0) fun _ => .kz 1) hhigh) fun s₃₄ thi F₃₄ S₃₄ => ?_)
    have S32_34 := S₃₃.trans S₃₄
    have B₃₄ : Bk H₀ s₃₄.heap := B₃₂.monoX S32_34.k fun b hb => frame_new B hb.1
    have hr34 := hr32.keep (F₃₂.keepS S32_34.k)
    have Vi34 : V i s₃₄.heap vals := by
      obtain ⟨q1, q2, q3, q4, q5, q6, q7, q8, q9, q10⟩ := Vi32
      have k := F₃₂.keepS S32_34.k
      exact ⟨q1, q2, q3, q4, q5, q6, q7.keep k, q8.keep k, istup_keep q9 k, istup_keep q10 k⟩
    have hrl : rown.length = n := ok.len
    -- the five votes
    refine wpAny_execs_cons ?_
    with_reducible refine for_list (H₀ := H₀) (k := 0) R₁.hd ?_ (hs := fsi_list)
    refine wpAny_List (wpAny_items_cons ?_ rfl)
    refine tup2W (evL F₃₄ rfl (list2N (.loc F₃₄ rfl) (.loc F₃₄ rfl) fun d1 a1 nd1 hd1 X1 U1 b1 nU1 hU1 Y1 => ?_))
    have k1 : Keep s₃₄.heap b1.heap := X1.kp.trans Y1.kp
    have Fb1 := F₃₄.mono k1
    refine wpAny_items_cons ?_ rfl
    refine tup2W (sliceN (.loc Fb1 rfl) (hr34.keep k1.toS) (sz hrl hSn).1 (sz hrl hSn).2.1 (.kn 1) fun v2 c2 nv2 hv2 Z2 => list2N (.loc (Fb1.mono Z2.kp) rfl) (.loc (Fb1.mono Z2.kp) rfl) fun d2 a2 nd2 hd2 X2 U2 b2 nU2 hU2 Y2 => ?_)
    have k2 : Keep b1.heap b2.heap := (Z2.kp.trans X2.kp).trans Y2.kp
    have Fb2 := Fb1.mono k2
    refine wpAny_items_cons ?_ rfl
    refine tup2W (wpAny_BinOp (evL Fb2 rfl ?_))
    with_reducible refine list_ints (ns := [0]) ?_ ?_ ?_
    · exact .cons _ rfl .nil
    · decide
    intro l3 e3 nl3 hl3 V3
    refine opCat (hr34.keep ((k1.trans k2).trans V3.kp).toS) hl3 (sz hrl hSn).2.2.1 fun v3 c3 nv3 hv3 Z3 => ?_
    have Fc3 := (Fb2.mono V3.kp).mono Z3.kp
    refine list2N (.loc Fc3 rfl) (.loc Fc3 rfl) fun d3 a3 nd3 hd3 X3 U3 b3 nU3 hU3 Y3 => ?_
    have k3 : Keep b2.heap b3.heap := ((V3.kp.trans Z3.kp).trans X3.kp).trans Y3.kp
    have Fb3 := Fb2.mono k3
    refine wpAny_items_cons ?_ rfl
    refine tup2W (wpAny_BinOp (evL Fb3 rfl ?_))
    with_reducible refine list_ints (ns := [0, 0]) ?_ ?_ ?_
    · exact .cons _ rfl (.cons _ rfl .nil)
    · decide
    intro l4 e4 nl4 hl4 V4
    refine opCat (hr34.keep (((k1.trans k2).trans k3).trans V4.kp).toS) hl4 (sz hrl hSn).2.2.2.1 fun v4 c4 nv4 hv4 Z4 => ?_
    have Fc4 := (Fb3.mono V4.kp).mono Z4.kp
    refine list2N (.loc Fc4 rfl) (.loc Fc4 rfl) fun d4 a4 nd4 hd4 X4 U4 b4 nU4 hU4 Y4 => ?_
    have k4 : Keep b3.heap b4.heap := ((V4.kp.trans Z4.kp).trans X4.kp).trans Y4.kp
    have Fb4 := Fb3.mono k4
    refine wpAny_items_cons ?_ rfl
    refine tup2W (wpAny_BinOp (evL Fb4 rfl ?_))
    with_reducible refine list_ints (ns := [1, 1]) ?_ ?_ ?_
    · exact .cons _ rfl (.cons _ rfl .nil)
    · decide
    intro l5 e5 nl5 hl5 V5
    refine opCat (hr34.keep ((((k1.trans k2).trans k3).trans k4).trans V5.kp).toS) hl5 (sz hrl hSn).2.2.2.1 fun v5' c5 nv5 hv5 Z5 => ?_
    have Fc5 := (Fb4.mono V5.kp).mono Z5.kp
    refine list2N (.loc Fc5 rfl) (.loc Fc5 rfl) fun d5 a5 nd5 hd5 X5 U5 b5 nU5 hU5 Y5 => ?_
    have k5' : Keep b4.heap b5.heap := ((V5.kp.trans Z5.kp).trans X5.kp).trans Y5.kp
    refine wpAny_items_nil ?_
    have S34b5 : Sm No s₃₄ b5 := by
      refine sm_trans (sm_trans X1 Y1) (sm_trans (sm_trans (sm_trans Z2 X2) Y2) (sm_trans (sm_trans (sm_trans (sm_trans V3 Z3) X3) Y3) (sm_trans (sm_trans (sm_trans (sm_trans V4 Z4) X4) Y4) (sm_trans (sm_trans (sm_trans V5 Z5) X5) Y5))))
    have kp5 : ∀ o, Keep b5.heap (b5.heap.push o) := fun o => Keep.push o
    let V' : Nat → Heap → List (Str × Value) → Prop := fun _ h vals => V i h vals ∧ vals.lookup (Str.ofString "row") = some (.ref r) ∧ vals.lookup (Str.ofString "more") = some (.int m tm) ∧ IsNats h r rown ∧ PairsAt h [U1, U2, U3, U4, U5] (votesN rown m)
    have stab' : ∀ j h h' vals, V' j h vals → KeepS h h' → V' j h' vals := by
      rintro j h h' vals ⟨⟨q1, q2, q3, q4, q5, q6, q7, q8, q9, q10⟩, p1, p2, p3, p4⟩ k
      exact ⟨⟨q1, q2, q3, q4, q5, q6, q7.keep k, q8.keep k, istup_keep q9 k, istup_keep q10 k⟩, p1, p2, p3.keep k, p4.keep k⟩
    have start : V' 0 b5.heap ((Str.ofString "high", Value.int ((highOf m : Nat) : Int) thi) :: (Str.ofString "low", Value.int ((lowOf m : Nat) : Int) tlo) :: (Str.ofString "more", Value.int m tm) :: (Str.ofString "row", Value.ref r) :: vals) := by
      have k := S34b5.kp.toS
      obtain ⟨q1, q2, q3, q4, q5, q6, q7, q8, q9, q10⟩ := Vi34
      refine ⟨⟨q1, q2, q3, q4, q5, q6, q7.keep k, q8.keep k, istup_keep q9 k, istup_keep q10 k⟩, rfl, rfl, hr34.keep k, ?_⟩
      have K2 := ((k2.trans k3).trans k4).trans k5'
      have K3 := (k3.trans k4).trans k5'
      have K4 := k4.trans k5'
      exact .cons ⟨r, d1, istup_keep hU1 K2.toS, hr34.keep k, hd1.keep (Y1.kp.trans K2).toS⟩
        (.cons ⟨v2, d2, istup_keep hU2 K3.toS, hv2.keep ((X2.kp.trans Y2.kp).trans K3).toS, hd2.keep (Y2.kp.trans K3).toS⟩
        (.cons ⟨v3, d3, istup_keep hU3 K4.toS, hv3.keep ((X3.kp.trans Y3.kp).trans K4).toS, hd3.keep (Y3.kp.trans K4).toS⟩
        (.cons ⟨v4, d4, istup_keep hU4 k5'.toS, hv4.keep ((X4.kp.trans Y4.kp).trans k5').toS, hd4.keep (Y4.kp.trans k5').toS⟩
        (.cons ⟨v5', d5, hU5, hv5.keep (X5.kp.trans Y5.kp).toS, hd5.keep Y5.kp.toS⟩ .nil))))
    refine ⟨by show (5 : Nat) ≤ sizeLine; rw [sizeLine_eq]; decide, _, #[.ref U1, .ref U2, .ref U3, .ref U4, .ref U5], V', rfl, ⟨_, Heap.get?_push_size _ rfl, rfl, _, rfl⟩, ⟨fun b o _ e => Heap.get?_push_of_some _ (S34b5.kp b o e), S34b5.g, S34b5.o⟩, ⟨_, F₃₄.mono (S34b5.kp.trans (kp5 _)), stab' 0 _ _ _ start (kp5 _).toS⟩, stab', ?_, ?_⟩
    · rintro jj u s₃₅ vals' hu F₃₅ ⟨Vj, p1, p2, p3, p4⟩ kS' kX'
      obtain ⟨U, pr, hUj, hpr, hj⟩ : ∃ U pr, u = .ref U ∧ (votesN rown m)[jj]? = some pr ∧ ∃ v d, s₃₅.heap.IsTuple U #[.ref v, .ref d] ∧ IsNats s₃₅.heap v pr.1 ∧ IsNats s₃₅.heap d pr.2 := by
        have hUs : ∃ U, [U1, U2, U3, U4, U5][jj]? = some U ∧ u = .ref U := by
          match jj, hu with
          | 0, hu => exact ⟨_, rfl, (Option.some.inj hu).symm⟩
          | 1, hu => exact ⟨_, rfl, (Option.some.inj hu).symm⟩
          | 2, hu => exact ⟨_, rfl, (Option.some.inj hu).symm⟩
          | 3, hu => exact ⟨_, rfl, (Option.some.inj hu).symm⟩
          | 4, hu => exact ⟨_, rfl, (Option.some.inj hu).symm⟩
          | jj + 5, hu => simp at hu
        obtain ⟨U, e1, e2⟩ := hUs
        obtain ⟨pr, e3, e4⟩ := p4.get' e1
        exact ⟨U, pr, e2, e3, e4⟩
      subst hUj
      obtain ⟨vv, dd, hT', hvv, hdd⟩ := hj
      have hin : pr ∈ votesN rown m := List.mem_of_getElem? hpr
      have hmed := ok.meds pr hin
      have hsz := sz_votes hrl hSn ok.bits pr hin
      have B₃₅ : Bk H₀ s₃₅.heap := B₃₄.monoX (KeepX.trans (S34b5.kp.toX) (KeepX.trans (kp5 _).toX kX')) fun b hb => frame_new B hb.1
      refine asgT2 R₁.hd F₃₅ hT' (.inl rfl) (.inl rfl) fun s₃₆ F₃₆ S₃₆ => ?_
      have kk := F₃₅.keepS S₃₆.k
      have B₃₆ : Bk H₀ s₃₆.heap := B₃₅.monoX S₃₆.k fun b hb => frame_new B hb.1
      have Vs : V' (jj + 1) s₃₆.heap vals' := stab' (jj + 1) _ _ _ ⟨Vj, p1, p2, p3, p4⟩ kk
      refine wpAny_execs_cons (wpAny_If ?_)
      refine wpAny_isTrue_Compare1 (wpAny_List (items2 ?_)) (by with_unfolding_all rfl)
      refine callDf (a := 70) (by with_unfolding_all rfl) (by with_unfolding_all rfl) G B₃₆ rfl rfl (items1 (evL F₃₆ rfl ⟨B₃₆, ?_⟩))
      refine low_spec G B₃₆ (R₁.le (by decide)) (hvv.keep kk) hsz.1 hsz.2.1 hsz.2.2 fun x1 s₃₇ hx1 S₃₇ => ?_
      have F₃₇ := F₃₆.mono S₃₇.kp
      have B₃₇ := B₃₆.mono S₃₇.kp
      refine callDf (a := 77) (by with_unfolding_all rfl) (by with_unfolding_all rfl) G B₃₇ rfl rfl (items1 (evL F₃₇ rfl ⟨B₃₇, ?_⟩))
      refine high_spec G B₃₇ (R₁.le (by decide)) ((hvv.keep kk).keep S₃₇.kp.toS) hsz.1 hsz.2.1 hsz.2.2 fun x2 s₃₈ hx2 S₃₈ => ⟨by show (2 : Nat) ≤ sizeLine; rw [sizeLine_eq]; decide, ?_⟩
      have k68 : Keep s₃₆.heap (s₃₈.heap.push { cls := .type "list", data := .seq [x1, x2].toArray }) := (S₃₇.kp.trans S₃₈.kp).trans (Keep.push _)
      have F₃₈ := F₃₆.mono k68
      refine evL (s := { s₃₈ with heap := s₃₈.heap.push { cls := .type "list", data := .seq [x1, x2].toArray } }) F₃₈ rfl ?_
      refine neL (ns := [midN pr.1 (lowI pr.1.length), midN pr.1 (pr.1.length / 2)]) (ms := pr.2) ⟨[x1, x2], ⟨_, Heap.get?_push_size _ rfl, rfl, _, rfl⟩, .cons hx1 (.cons hx2 .nil)⟩ ((hdd.keep kk).keep k68.toS) (u64 R₁) (wpAny_truthy_bool ?_)
      rw [show (!decide ([midN pr.1 (lowI pr.1.length), midN pr.1 (pr.1.length / 2)] = pr.2)) = false by rw [hmed]; simp]
      refine wpAny_execs_nil (wpAny_execs_nil ⟨.inl rfl, ⟨_, F₃₈, ?_⟩, S₃₆.trans ⟨k68.toX, S₃₈.g.trans S₃₇.g, S₃₈.o.trans S₃₇.o⟩⟩)
      exact stab' 0 _ _ _ Vs k68.toS
    · rintro s₃₅ vals' F₃₅ ⟨Vj, p1, p2, p3, p4⟩ S₃₅
      have B₃₅ : Bk H₀ s₃₅.heap := B₃₄.monoX S₃₅.k fun b hb => frame_new B hb.1
      have q1 := Vj.1
      have hsum := sum01 rown ok.bits
      have hsm := ok.sum
      refine wpAny_execs_cons (wpAny_If ?_)
      refine wpAny_isTrue_Compare1 ?_ (by with_unfolding_all rfl)
      refine callDf (a := 63) (by with_unfolding_all rfl) (by with_unfolding_all rfl) G B₃₅ rfl rfl (items1 (evL F₃₅ p1 ⟨B₃₅, ?_⟩))
      refine fmean_spec G B₃₅ (R₁.le (by decide)) p3 (sz hrl hSn).2.2.2.2.1 (sz hrl hSn).2.2.2.2.2 ok.bits fun x f t s₃₆ hf hx S₃₆ => ?_
      have F₃₆ := F₃₅.mono S₃₆.kp
      refine wpAny_BinOp ?_
      refine EvZ.run (EvZ.sub (.loc F₃₆ q1) (.loc F₃₆ p2)) fun tk t' => ?_
      refine EvZ.run (s := { s₃₆ with toks := tk }) (EvZ.mul (.kz 2) (.loc F₃₆ q1) (by decide) (nums16 hSn).1) fun tk2 t2 => ?_
      have hzz : ((n : Int) - m) * 2 ^ 30 = (((rown.sum : Nat) : Int) * K) * (2 * (n : Int)) := by
        rw [hsm]
        exact half_eq hK
      have hzb : (((rown.sum : Nat) : Int) * K).natAbs < 2 ^ 53 := by
        exact half_lt hK (hrl ▸ hsum)
      refine div_ints R₁.hd (nums16 hSn).2.1 (lead_b hsm hsum hrl hSn).2 hzz hzb fun y t3 tk3 hy => ?_
      refine PySem.AutoFloatOps.ne_0 (wpAny_truthy_bool ?_)
      have hxv : FV x (((rown.sum : Nat) : Int) * K) := by
        rw [hx, hrl]
        exact bar_FV hK (hrl ▸ hsum) hf
      have hcmp : Float64.cmp x y = some .eq := by
        rw [hxv.cmp hy]
        simp [compare, compareOfLessAndEq]
      rw [hcmp]
      refine wpAny_execs_nil (wpAny_execs_nil ⟨.inl rfl, ⟨_, F₃₆, ?_⟩, ((S₃₂.trans S32_34).trans S₃₅).trans S₃₆.any⟩)
      have k := S₃₆.kp.toS
      obtain ⟨q1, q2, q3, q4, q5, q6, q7, q8, q9, q10⟩ := Vj
      exact ⟨q1, q2, q3, q4, q5, q6, q7.keep k, q8.keep k, istup_keep q9 k, istup_keep q10 k⟩
  · rintro s₃₁ vals F₃₁ ⟨q1, q2, q3, q4, q5, q6, q7, q8, q9, q10⟩ S₃₁
    have S1_31 : Sm (Inter s.heap.objs.size 0) s₁ s₃₁ := S1_28.trans S₃₁
    have B₃₁ : Bk H₀ s₃₁.heap := B₁.monoX S1_31.k fun b hb => frame_new B hb.1
    have u1 := sum01 row1 r1.bits
    have u2 := sum01 row2 r2.bits
    have w1 := r1.sum
    have w2 := r2.sum
    have g1 := r1.len
    have g2 := r2.len
    refine wpAny_execs_cons (wpAny_Return_some (wpAny_Compare1 ?_ (by with_unfolding_all rfl)))
    refine callDf (a := 84) (by with_unfolding_all rfl) (by with_unfolding_all rfl) G B₃₁ rfl rfl (items2 (evL F₃₁ q5 (evL F₃₁ q6 ⟨B₃₁, ?_⟩)))
    refine cov_spec G B₃₁ (R₁.le (by decide)) q7 q8 (g2.trans g1.symm) (by rw [g1]; exact hSn) r1.bits r2.bits fun f t s₃₂ hf kx xt ho hbr => ?_
    have F₃₂ := F₃₁.monoX kx fun b hb e => (F₃₁.off b hb).2 e
    rw [g1] at hf
    have b1 : m1.natAbs ≤ 32 := (lead_b w1 u1 g1 hSn).1
    have b2 : m2.natAbs ≤ 32 := (lead_b w2 u2 g2 hSn).1
    have hnum := cov_nums hSn b1 b2 gb gc
    refine wpAny_BinOp (wpAny_BinOp ?_)
    refine EvZ.run (EvZ.sub (EvZ.mul (.loc F₃₂ q1) (.loc F₃₂ q4) (nums16 hSn).1 (Nat.lt_of_le_of_lt gb (by decide))) (EvZ.mul (.loc F₃₂ q2) (.loc F₃₂ q3) (Nat.lt_of_le_of_lt b1 (by decide)) (Nat.lt_of_le_of_lt b2 (by decide)))) fun tk t1 => ?_
    refine EvZ.run (s := { s₃₂ with toks := tk }) (EvZ.mul (.kz 4) (.loc F₃₂ q1) (by decide) (nums16 hSn).1) fun tk2 t2 => ?_
    refine div_ints R₁.hd (nums16 hSn).2.2.1 hnum.2 gc hnum.1 fun y t3 tk3 hy => ?_
    refine EvZ.run (s := { s₃₂ with toks := tk3 }) (EvZ.cast (EvZ.sub (.loc F₃₂ q1) (.kz 1)) (nums16 hSn).2.2.2.1) fun tk4 t4 => ?_
    refine divFN R₁.hd (nums16 hSn).2.2.2.2.1 (nums16 hSn).2.2.2.2.2.1 fun t5 tk5 => ?_
    refine PySem.AutoFloatOps.eq_0 ?_
    rw [g1]
    have hc := div_same (n := n - 1) hf hy (FV.ofInt (i := ((n - 1 : Nat) : Int)) (nums16 hSn).2.2.2.2.2.2) (nums16 hSn).2.2.2.2.1
    rw [hc]
    have fresh : ∀ b, Inter s.heap.objs.size 0 b → s.heap.get? b = none := fun b hb => Heap.get?_none_of_le hb.1
    refine h _ ?_ ?_ ?_ ?_
    · intro b o nb e
      exact kx b o nb (S1_31.k b o (fun hb => by rw [fresh b hb] at e; cases e) (S.kp b o e))
    · have n79 : ¬ Inter s.heap.objs.size 0 79 := fun hb => (frame_new B hb.1).2 rfl
      exact ((ExtT.of_get fun o e => S.kp _ _ e).trans (.of_get fun o e => S1_31.k _ _ n79 e)).trans xt
    · exact ho.trans (S1_31.o.trans S.o)
    · intro hy'
      have e2 : s₃₁.gens = s.gens := S1_31.g.trans S.g
      exact hbr (by rw [e2]; exact hy')
end
end Mine
end
/-! text P2 -/
section
open PySem
namespace Mine
/-- additive under xor -/
def Lin (f : Nat → Nat) : Prop := ∀ a b, f (a ^^^ b) = f a ^^^ f b
theorem Lin.zero {f : Nat → Nat} (h : Lin f) : f 0 = 0 := by
  have := h 0 0
  rw [Nat.xor_self, Nat.xor_self] at this
  exact this
theorem Lin.comp {f g : Nat → Nat} (hf : Lin f) (hg : Lin g) : Lin fun x => f (g x) := fun a b => by
  show f (g (a ^^^ b)) = f (g a) ^^^ f (g b)
  rw [hg, hf]
theorem lin_and (m : Nat) : Lin fun x => x &&& m := fun a b => Nat.and_xor_distrib_right
theorem lin_shr (k : Nat) : Lin fun x => x >>> k := fun a b => Nat.shiftRight_xor_distrib
theorem lin_shl (k : Nat) : Lin fun x => x * 2 ^ k := fun a b => by
  show (a ^^^ b) * 2 ^ k = a * 2 ^ k ^^^ b * 2 ^ k
  rw [← Nat.shiftLeft_eq, ← Nat.shiftLeft_eq, ← Nat.shiftLeft_eq]
  exact Nat.shiftLeft_xor_distrib
theorem xor4 (a b c d : Nat) : (a ^^^ b) ^^^ (c ^^^ d) = (a ^^^ c) ^^^ (b ^^^ d) := by
  rw [Nat.xor_assoc, Nat.xor_assoc, ← Nat.xor_assoc b c d, Nat.xor_comm b c, Nat.xor_assoc c b d]
theorem Lin.xor {f g : Nat → Nat} (hf : Lin f) (hg : Lin g) : Lin fun x => f x ^^^ g x := fun a b => by
  show f (a ^^^ b) ^^^ g (a ^^^ b) = _
  rw [hf, hg, xor4]
theorem lin_if {f : Nat → Nat} (hf : Lin f) (h01 : ∀ x, f x ≤ 1) (c : Nat) : Lin fun x => if f x = 1 then c else 0 := fun a b => by
  show (if f (a ^^^ b) = 1 then c else 0) = (if f a = 1 then c else 0) ^^^ (if f b = 1 then c else 0)
  rw [hf]
  have e1 : f a = 0 ∨ f a = 1 := by have := h01 a; omega
  have e2 : f b = 0 ∨ f b = 1 := by have := h01 b; omega
  rcases e1 with e1 | e1 <;> rcases e2 with e2 | e2 <;> rw [e1, e2] <;> simp
theorem lin_of_eq {f g : Nat → Nat} (hg : Lin g) (h : ∀ x, f x = g x) : Lin f := by rw [show f = g from funext h]; exact hg
theorem lin_id : Lin fun x => x := fun _ _ => rfl
theorem and1 (x : Nat) : x &&& 1 ≤ 1 := Nat.and_le_right
theorem crcStep_lin : Lin crcStep := by
  refine lin_of_eq ((lin_shr 1).xor (lin_if (lin_and 1) and1 3988292384)) fun x => ?_
  unfold crcStep
  have e : x &&& 1 = 0 ∨ x &&& 1 = 1 := by have := and1 x; omega
  rcases e with e | e <;> simp [e]
theorem crcIt_lin : ∀ n, Lin (crcIt n)
  | 0 => lin_id
  | n + 1 => crcStep_lin.comp (crcIt_lin n)
theorem crcN_lin : Lin crcN := crcIt_lin 8
theorem oddStep_lin (l : List Nat) : ∀ {f : Nat → Nat}, Lin f → Lin fun x => l.foldl (fun n y => n ^^^ n >>> y) (f x) := by
  induction l with
  | nil => intro f h; exact h
  | cons y r ih => intro f h; exact ih (f := fun x => f x ^^^ f x >>> y) (h.xor ((lin_shr y).comp h))
theorem oddN_lin : Lin oddN := (lin_and 1).comp (oddStep_lin oddTab lin_id)
theorem restStep_lin (p : Nat) : Lin fun r => restStep r p := by
  refine lin_of_eq (lin_id.xor (lin_if ((lin_and 1).comp (lin_shr (32 + p))) (fun x => and1 _) (4374732215 * 2 ^ p))) fun x => ?_
  unfold restStep
  split <;> simp
theorem restIt_lin : ∀ n, Lin (restIt n)
  | 0 => lin_id
  | n + 1 => (restStep_lin (7 - n)).comp (restIt_lin n)
theorem turn1_eq {s m : Nat} (h : m &&& m * 2 ^ s = 0) (w : Nat) : turn1 w (s, m) = (w >>> s &&& m) ^^^ ((w &&& m) * 2 ^ s) := by
  unfold turn1
  have k := nat_xor_and (w >>> s &&& m) (w >>> s &&& m) ((w &&& m) * 2 ^ s) (Nat.le_refl _)
  have z : (w >>> s &&& m) &&& ((w &&& m) * 2 ^ s) = 0 := by
    rw [← Nat.shiftLeft_eq] at h ⊢
    rw [Nat.shiftLeft_and_distrib, Nat.and_assoc, ← Nat.and_assoc m, Nat.and_comm m, Nat.and_assoc (w <<< s), h, Nat.and_zero, Nat.and_zero]
  show (w >>> s &&& m) + (w &&& m) * 2 ^ s = _
  omega
theorem turn1_lin {s m : Nat} (h : m &&& m * 2 ^ s = 0) : Lin fun w => turn1 w (s, m) :=
  lin_of_eq (((lin_and m).comp (lin_shr s)).xor ((lin_shl s).comp (lin_and m))) (turn1_eq h)
theorem turnedN_lin : Lin turnedN := by
  refine lin_of_eq (g := fun w => turn1 (turn1 (turn1 (turn1 (turn1 w (16, 65535)) (8, 16711935)) (4, 252645135)) (2, 858993459)) (1, 1431655765)) ?_ fun _ => rfl
  exact (turn1_lin (by decide)).comp ((turn1_lin (by decide)).comp ((turn1_lin (by decide)).comp ((turn1_lin (by decide)).comp (turn1_lin (by decide)))))
theorem restN_lin : Lin restN := turnedN_lin.comp ((restIt_lin 8).comp ((lin_shl 8).comp turnedN_lin))
theorem lin_eq {f g : Nat → Nat} (hf : Lin f) (hg : Lin g) : ∀ (k : Nat), (∀ i, i < k → f (2 ^ i) = g (2 ^ i)) → ∀ w, w < 2 ^ k → f w = g w
  | 0, _, w, hw => by
    obtain rfl : w = 0 := by simpa using hw
    rw [hf.zero, hg.zero]
  | k + 1, h, w, hw => by
    rcases Nat.lt_or_ge w (2 ^ k) with q | q
    · exact lin_eq hf hg k (fun i hi => h i (by omega)) w q
    · have e : w = 2 ^ k ^^^ (w - 2 ^ k) := by
        have hlt : w - 2 ^ k < 2 ^ k := by rw [Nat.pow_succ] at hw; omega
        have z : 2 ^ k &&& (w - 2 ^ k) = 0 := by
          apply Nat.eq_of_testBit_eq
          intro i
          rw [Nat.testBit_and, Nat.testBit_two_pow, Nat.zero_testBit]
          by_cases q' : k = i
          · subst q'; rw [Nat.testBit_lt_two_pow hlt]; simp
          · simp [q']
        have := nat_xor_and (2 ^ k) (2 ^ k) (w - 2 ^ k) (Nat.le_refl _)
        omega
      have hlt : w - 2 ^ k < 2 ^ k := by rw [Nat.pow_succ] at hw; omega
      rw [e, hf, hg, h k (by omega), lin_eq hf hg k (fun i hi => h i (by omega)) _ hlt]
theorem basis : ∀ i, i < 32 → restN (2 ^ i) = crcN (2 ^ i) := by decide +kernel
theorem rest_crc {w : Nat} (h : w < 2 ^ 32) : restN w = crcN w := lin_eq restN_lin crcN_lin 32 basis w h
theorem crc_lt {w : Nat} (h : w < 2 ^ 32) : crcN w < 2 ^ 32 := by rw [← rest_crc h]; exact turned_lt _
end Mine
end
/-! text P3 -/
section
open PySem
namespace Mine
def sg (b : Bool) : Int := if b then -1 else 1
theorem sg_xor (a b : Bool) : sg (a ^^ b) = sg a * sg b := by cases a <;> cases b <;> decide
/-- the sum of signs of a quadratic form over all subsets of a list -/
def Ga {α : Type} : List α → (α → Bool) → (α → α → Bool) → Int
  | [], _, _ => 1
  | i :: r, m, F => Ga r m F + sg (m i) * Ga r (fun k => m k ^^ F i k) F
theorem Ga.congr {α : Type} {F F' : α → α → Bool} : ∀ (r : List α) (m m' : α → Bool), (∀ i ∈ r, m i = m' i) → (∀ i ∈ r, ∀ j ∈ r, F i j = F' i j) → Ga r m F = Ga r m' F'
  | [], _, _, _, _ => rfl
  | i :: r, m, m', hm, hF => by
    unfold Ga
    rw [Ga.congr r m m' (fun k hk => hm k (List.mem_cons_of_mem _ hk)) (fun a ha b hb => hF a (List.mem_cons_of_mem _ ha) b (List.mem_cons_of_mem _ hb)), hm i List.mem_cons_self,
      Ga.congr r (fun k => m k ^^ F i k) (fun k => m' k ^^ F' i k) (fun k hk => by rw [hm k (List.mem_cons_of_mem _ hk), hF i List.mem_cons_self k (List.mem_cons_of_mem _ hk)]) (fun a ha b hb => hF a (List.mem_cons_of_mem _ ha) b (List.mem_cons_of_mem _ hb))]
theorem Ga.map {α β : Type} {F : β → β → Bool} (φ : α → β) : ∀ (r : List α) (m : β → Bool), Ga (r.map φ) m F = Ga r (fun i => m (φ i)) (fun i j => F (φ i) (φ j))
  | [], _ => rfl
  | i :: r, m => by rw [List.map_cons]; unfold Ga; rw [Ga.map φ r m, Ga.map φ r]
theorem Ga.perm {α : Type} {F : α → α → Bool} (hs : ∀ i j, F i j = F j i) {l l' : List α} (p : l.Perm l') : ∀ m, Ga l m F = Ga l' m F := by
  induction p with
  | nil => intro m; rfl
  | cons x _ ih => intro m; unfold Ga; rw [ih, ih]
  | swap x y l =>
    intro m
    simp only [Ga]
    have e : (fun k => (m k ^^ F y k) ^^ F x k) = fun k => (m k ^^ F x k) ^^ F y k := by funext k; cases m k <;> cases F y k <;> cases F x k <;> rfl
    rw [e, sg_xor, sg_xor, hs y x, Int.mul_add, Int.mul_add]
    generalize Ga l (fun k => (m k ^^ F x k) ^^ F y k) F = T
    generalize Ga l m F = T0
    generalize Ga l (fun k => m k ^^ F x k) F = T1
    generalize Ga l (fun k => m k ^^ F y k) F = T2
    have : sg (m y) * (sg (m x) * sg (F x y) * T) = sg (m x) * (sg (m y) * sg (F x y) * T) := by simp only [Int.mul_comm, Int.mul_left_comm, Int.mul_assoc]
    omega
  | trans _ _ h1 h2 => intro m; rw [h1, h2]
/-- two variables that meet, summed away -/
theorem Ga.key {α : Type} {F : α → α → Bool} (a b : α → Bool) : ∀ (r : List α) (m : α → Bool) (x y : Bool),
    Ga r m F + sg y * Ga r (fun k => m k ^^ b k) F + sg x * Ga r (fun k => m k ^^ a k) F - sg (x ^^ y) * Ga r (fun k => (m k ^^ a k) ^^ b k) F =
      2 * sg (x && y) * Ga r (fun k => ((m k ^^ (x && b k)) ^^ (y && a k)) ^^ (a k && b k)) (fun j k => (F j k ^^ (a j && b k)) ^^ (b j && a k))
  | [], m, x, y => by simp only [Ga]; cases x <;> cases y <;> decide
  | i :: r, m, x, y => by
    have h1 := Ga.key (F := F) a b r m x y
    have h2 := Ga.key (F := F) a b r (fun k => m k ^^ F i k) (x ^^ a i) (y ^^ b i)
    simp only [Ga]
    have e1 : (fun k => (m k ^^ b k) ^^ F i k) = fun k => (m k ^^ F i k) ^^ b k := by funext k; cases m k <;> cases F i k <;> cases b k <;> rfl
    have e2 : (fun k => (m k ^^ a k) ^^ F i k) = fun k => (m k ^^ F i k) ^^ a k := by funext k; cases m k <;> cases F i k <;> cases a k <;> rfl
    have e3 : (fun k => ((m k ^^ a k) ^^ b k) ^^ F i k) = fun k => ((m k ^^ F i k) ^^ a k) ^^ b k := by funext k; cases m k <;> cases F i k <;> cases a k <;> cases b k <;> rfl
    have e4 : (fun k => (((m k ^^ (x && b k)) ^^ (y && a k)) ^^ (a k && b k)) ^^ ((F i k ^^ (a i && b k)) ^^ (b i && a k))) = fun k => ((((m k ^^ F i k) ^^ ((x ^^ a i) && b k)) ^^ ((y ^^ b i) && a k)) ^^ (a k && b k)) := by
      funext k
      cases m k <;> cases F i k <;> cases a k <;> cases b k <;> cases x <;> cases y <;> cases a i <;> cases b i <;> rfl
    rw [e1, e2, e3, e4]
    generalize Ga r (fun k => ((m k ^^ (x && b k)) ^^ (y && a k)) ^^ (a k && b k)) (fun j k => (F j k ^^ (a j && b k)) ^^ (b j && a k)) = R1 at h1 ⊢
    generalize Ga r (fun k => ((((m k ^^ F i k) ^^ ((x ^^ a i) && b k)) ^^ ((y ^^ b i) && a k)) ^^ (a k && b k))) (fun j k => (F j k ^^ (a j && b k)) ^^ (b j && a k)) = R2 at h2 ⊢
    generalize Ga r m F = A1 at *
    generalize Ga r (fun k => m k ^^ b k) F = A2 at *
    generalize Ga r (fun k => m k ^^ a k) F = A3 at *
    generalize Ga r (fun k => (m k ^^ a k) ^^ b k) F = A4 at *
    generalize Ga r (fun k => m k ^^ F i k) F = B1 at *
    generalize Ga r (fun k => (m k ^^ F i k) ^^ b k) F = B2 at *
    generalize Ga r (fun k => (m k ^^ F i k) ^^ a k) F = B3 at *
    generalize Ga r (fun k => ((m k ^^ F i k) ^^ a k) ^^ b k) F = B4 at *
    generalize m i = mi
    generalize a i = ai at *
    generalize b i = bi at *
    cases x <;> cases y <;> cases mi <;> cases ai <;> cases bi <;> simp [sg] at h1 h2 ⊢ <;> omega
end Mine
end
/-! text P4 -/
section
open PySem
namespace Mine
def bm (marks : List Nat) (k : Nat) : Bool := decide (marks.getD k 0 = 1)
def bf (feel : List (List Nat)) (j k : Nat) : Bool := decide (g2 feel j k = 1)
theorem dx {a b : Nat} (ha : a ≤ 1) (hb : b ≤ 1) : decide (a ^^^ b = 1) = (decide (a = 1) ^^ decide (b = 1)) := by
  have e : a = 0 ∨ a = 1 := by omega
  have f : b = 0 ∨ b = 1 := by omega
  rcases e with rfl | rfl <;> rcases f with rfl | rfl <;> decide
theorem da {a b : Nat} (ha : a ≤ 1) (hb : b ≤ 1) : decide (a &&& b = 1) = (decide (a = 1) && decide (b = 1)) := by
  have e : a = 0 ∨ a = 1 := by omega
  have f : b = 0 ∨ b = 1 := by omega
  rcases e with rfl | rfl <;> rcases f with rfl | rfl <;> decide
theorem sq_sym {rows : List (List Nat)} {n : Nat} (q : Sq rows n) (h : ∀ j k, j < n → k < n → g2 rows j k = g2 rows k j) (j k : Nat) : g2 rows j k = g2 rows k j := by
  have out : ∀ j k, (n ≤ j ∨ n ≤ k) → g2 rows j k = 0 := fun j k hjk => by
    unfold g2
    rcases Nat.lt_or_ge j n with hj | hj
    · obtain ⟨r, e, hl, er⟩ := q.row hj
      rw [← er, List.getD_eq_getElem?_getD, List.getElem?_eq_none (by omega)]; rfl
    · have e : rows.getD j [] = [] := by rw [List.getD_eq_getElem?_getD, List.getElem?_eq_none (by rw [q.1]; exact hj)]; rfl
      rw [e]; rfl
  by_cases hj : j < n
  · by_cases hk : k < n
    · exact h j k hj hk
    · rw [out j k (.inr (by omega)), out k j (.inl (by omega))]
  · rw [out j k (.inl (by omega)), out k j (.inr (by omega))]
theorem getD_drop1 {α : Type} (l : List α) (d : α) (i : Nat) : (l.drop 1).getD i d = l.getD (i + 1) d := by
  rw [List.getD_eq_getElem?_getD, List.getD_eq_getElem?_getD, List.getElem?_drop, Nat.add_comm]
theorem g2_drop (feel : List (List Nat)) (i j : Nat) : g2 ((feel.drop 1).map (List.drop 1)) i j = g2 feel (i + 1) (j + 1) := by
  unfold g2
  have e : ((feel.drop 1).map (List.drop 1)).getD i [] = (feel.getD (i + 1) []).drop 1 := by
    rw [List.getD_eq_getElem?_getD, List.getD_eq_getElem?_getD, List.getElem?_map, List.getElem?_drop, Nat.add_comm]
    cases feel[i + 1]? <;> rfl
  rw [e, getD_drop1]
theorem g2_map {left : List (Nat × Nat × Nat)} {g : (Nat × Nat × Nat) → (Nat × Nat × Nat) → Nat} {i j : Nat} (hi : i < left.length) (hj : j < left.length) :
    g2 (left.map fun t => left.map (g t)) i j = g (left.getD i (0, 0, 0)) (left.getD j (0, 0, 0)) := by
  unfold g2
  simp [List.getD_eq_getElem?_getD, List.getElem?_eq_getElem hi, List.getElem?_eq_getElem hj]
theorem left_perm {n mate : Nat} (hm : mate < n) (h0 : mate ≠ 0) : (List.range n).Perm (0 :: mate :: (((List.range (n - 1)).filter fun i => decide (1 + i ≠ mate)).map fun i => 1 + i)) := by
  obtain ⟨k, rfl⟩ : ∃ k, n = k + 1 := ⟨n - 1, by omega⟩
  rw [List.range_succ_eq_map]
  refine List.Perm.cons 0 ?_
  have e1 : (List.range k).map Nat.succ = (List.range k).map fun i => 1 + i := List.map_congr_left fun i _ => by omega
  rw [e1]
  have nd : ((List.range k).map fun i => 1 + i).Nodup := List.Pairwise.map _ (fun a b hab => by omega) List.nodup_range
  have hin : mate ∈ (List.range k).map fun i => 1 + i := List.mem_map.mpr ⟨mate - 1, List.mem_range.mpr (by omega), by omega⟩
  have p := List.perm_cons_erase hin
  rw [nd.erase_eq_filter] at p
  refine p.trans (List.Perm.cons mate ?_)
  rw [List.filter_map]
  refine List.Perm.of_eq ?_
  show List.map (fun i => 1 + i) (List.filter ((fun x => x != mate) ∘ fun i => 1 + i) (List.range k)) = List.map (fun i => 1 + i) (List.filter (fun i => decide (1 + i ≠ mate)) (List.range k))
  congr 1
  refine List.filter_congr fun i _ => ?_
  by_cases q : 1 + i = mate <;> simp [q]
theorem lead_ga : ∀ (f : Nat) (marks : List Nat) (feel : List (List Nat)) (l : Int), marks.length ≤ f → Sq feel marks.length → Bits marks → (∀ r ∈ feel, Bits r) → (∀ j k, g2 feel j k = g2 feel k j) → (∀ j, g2 feel j j = 0) →
    leadN f marks feel l = l * Ga (List.range marks.length) (bm marks) (bf feel)
  | 0, marks, feel, l, hl, _, _, _, _, _ => by
    obtain rfl : marks = [] := List.length_eq_zero_iff.mp (by omega)
    rw [leadN_end]; simp [Ga]
  | f + 1, marks, feel, l, hl, sq, bM, bF, sy, dg => by
    by_cases hnil : marks = []
    · subst hnil; rw [leadN_end]; simp [Ga]
    have hpos : 0 < marks.length := List.length_pos_iff.mpr hnil
    have e0 : marks.getD 0 0 = 0 ∨ marks.getD 0 0 = 1 := by have := bM.at 0; omega
    cases hmt : matesN marks.length feel with
    | nil =>
      rw [leadN_nil hnil hmt]
      have hd : (marks.drop 1).length = marks.length - 1 := List.length_drop
      rw [lead_ga f (marks.drop 1) ((feel.drop 1).map (List.drop 1)) _ (by omega) ?_ ?_ ?_ ?_ ?_]
      · obtain ⟨k, hk⟩ : ∃ k, marks.length = k + 1 := ⟨marks.length - 1, by omega⟩
        rw [hd, hk, List.range_succ_eq_map]
        simp only [Ga]
        have c1 : Ga ((List.range k).map Nat.succ) (fun j => bm marks j ^^ bf feel 0 j) (bf feel) = Ga ((List.range k).map Nat.succ) (bm marks) (bf feel) := by
          refine Ga.congr _ _ _ (fun i hi => ?_) fun _ _ _ _ => rfl
          obtain ⟨j, hj, rfl⟩ := List.mem_map.mp hi
          have hj := List.mem_range.mp hj
          have : bf feel 0 (Nat.succ j) = false := by
            refine decide_eq_false fun q => ?_
            have : Nat.succ j ∈ matesN marks.length feel := List.mem_filter.mpr ⟨List.mem_range.mpr (by omega), decide_eq_true q⟩
            rw [hmt] at this; cases this
          show (bm marks (Nat.succ j) ^^ bf feel 0 (Nat.succ j)) = bm marks (Nat.succ j)
          rw [this]; cases bm marks (Nat.succ j) <;> rfl
        rw [c1, Ga.map]
        have c2 : Ga (List.range k) (bm (marks.drop 1)) (bf ((feel.drop 1).map (List.drop 1))) = Ga (List.range k) (fun i => bm marks (Nat.succ i)) (fun i j => bf feel (Nat.succ i) (Nat.succ j)) :=
          Ga.congr _ _ _ (fun i _ => by unfold bm; rw [getD_drop1]) fun i _ j _ => by unfold bf; rw [g2_drop]
        rw [show k + 1 - 1 = k from rfl, c2]
        generalize Ga (List.range k) (fun i => bm marks (Nat.succ i)) (fun i j => bf feel (Nat.succ i) (Nat.succ j)) = T
        unfold bm
        rcases e0 with e | e <;> rw [e] <;> simp [sg]
        · rw [Int.mul_assoc]; congr 1; omega
        · rw [Int.add_right_neg, Int.mul_zero]
      · refine ⟨by rw [List.length_map, List.length_drop, List.length_drop, sq.1], fun r hr => ?_⟩
        obtain ⟨x, hx, rfl⟩ := List.mem_map.mp hr
        rw [List.length_drop, List.length_drop, sq.2 x (List.mem_of_mem_drop hx)]
      · exact fun x hx => bM x (List.mem_of_mem_drop hx)
      · intro r hr x hx
        obtain ⟨y, hy, rfl⟩ := List.mem_map.mp hr
        exact bF y (List.mem_of_mem_drop hy) x (List.mem_of_mem_drop hx)
      · intro j k; rw [g2_drop, g2_drop, sy]
      · intro j; rw [g2_drop, dg]
    | cons mate rest =>
      rw [leadN_cons hnil hmt]
      have hmem : mate ∈ matesN marks.length feel := by rw [hmt]; exact List.mem_cons_self
      have hmate : mate < marks.length := List.mem_range.mp (List.mem_filter.mp hmem).1
      have h0m : g2 feel 0 mate = 1 := of_decide_eq_true (List.mem_filter.mp hmem).2
      have hne : mate ≠ 0 := fun q => by rw [q, dg] at h0m; cases h0m
      have sym : ∀ i j, bf feel i j = bf feel j i := fun i j => by unfold bf; rw [sy]
      generalize hleft : leftN marks.length feel mate = left
      have hidx : (((List.range (marks.length - 1)).filter fun i => decide (1 + i ≠ mate)).map fun i => 1 + i) = left.map Prod.fst := by
        rw [← hleft]; unfold leftN; rw [List.map_map]; rfl
      have hle : left.length ≤ marks.length - 1 := by
        rw [← hleft]; unfold leftN
        rw [List.length_map]
        exact Nat.le_trans (List.length_filter_le _ _) (by rw [List.length_range]; exact Nat.le_refl _)
      have hat : ∀ t ∈ left, t.2.1 = g2 feel 0 t.1 ∧ t.2.2 = g2 feel mate t.1 := fun t ht => by
        rw [← hleft] at ht
        obtain ⟨_, _, q3, q4⟩ := leftN_at ht
        exact ⟨q3.trans (sy _ _), q4.trans (sy _ _)⟩
      have sq' : Sq (left.map fun t => left.map (feelStep feel t)) (left.map (markStep marks mate)).length := by
        refine ⟨by rw [List.length_map, List.length_map], fun r hr => ?_⟩
        obtain ⟨x, hx, rfl⟩ := List.mem_map.mp hr
        rw [List.length_map, List.length_map]
      have bits2 : ∀ t ∈ left, t.2.1 ≤ 1 ∧ t.2.2 ≤ 1 := fun t ht => by
        obtain ⟨q1, q2⟩ := hat t ht
        rw [q1, q2]; exact ⟨g2_bit bF _ _, g2_bit bF _ _⟩
      have hlm : (left.map (markStep marks mate)).length = left.length := List.length_map _
      rw [lead_ga f _ _ _ (by rw [hlm]; omega) sq' ?_ ?_ ?_ ?_]
      · have hp := Ga.perm sym (left_perm hmate hne) (bm marks)
        rw [hp, hidx, hlm]
        have hF0m : bf feel 0 mate = true := decide_eq_true h0m
        have key := Ga.key (F := bf feel) (bf feel 0) (bf feel mate) (left.map Prod.fst) (bm marks) (bm marks 0) (bm marks mate)
        simp only [Ga]
        rw [hF0m]
        have c : Ga (List.range left.length) (bm (left.map (markStep marks mate))) (bf (left.map fun t => left.map (feelStep feel t))) =
            Ga (left.map Prod.fst) (fun k => ((bm marks k ^^ (bm marks 0 && bf feel mate k)) ^^ (bm marks mate && bf feel 0 k)) ^^ (bf feel 0 k && bf feel mate k)) (fun j k => (bf feel j k ^^ (bf feel 0 j && bf feel mate k)) ^^ (bf feel mate j && bf feel 0 k)) := by
          rw [← range_map_getD left (0, 0, 0) Prod.fst, Ga.map]
          refine Ga.congr _ _ _ (fun i hi => ?_) fun i hi j hj => ?_
          · have hi := List.mem_range.mp hi
            have ht : left.getD i (0, 0, 0) ∈ left := by rw [List.getD_eq_getElem?_getD, List.getElem?_eq_getElem hi]; exact List.getElem_mem hi
            have e1 : (left.map (markStep marks mate)).getD i 0 = markStep marks mate (left.getD i (0, 0, 0)) := by
              rw [List.getD_eq_getElem?_getD, List.getD_eq_getElem?_getD, List.getElem?_map, List.getElem?_eq_getElem hi]; rfl
            unfold bm
            rw [e1]
            generalize left.getD i (0, 0, 0) = t at ht
            obtain ⟨b1, b2⟩ := bits2 t ht
            obtain ⟨q1, q2⟩ := hat t ht
            unfold markStep
            rw [dx (xor_bit (xor_bit (bM.at _) (and_bit b2)) (and_bit b1)) (and_bit b1), dx (xor_bit (bM.at _) (and_bit b2)) (and_bit b1), dx (bM.at _) (and_bit b2), da b2 (bM.at _), da b1 (bM.at _), da b1 b2]
            unfold bf
            rw [q1, q2]
            rw [Bool.and_comm (decide (g2 feel mate t.1 = 1)), Bool.and_comm (decide (g2 feel 0 t.1 = 1)) (decide (marks.getD mate 0 = 1))]
          · have hi := List.mem_range.mp hi
            have hj := List.mem_range.mp hj
            have hti : left.getD i (0, 0, 0) ∈ left := by rw [List.getD_eq_getElem?_getD, List.getElem?_eq_getElem hi]; exact List.getElem_mem hi
            have htj : left.getD j (0, 0, 0) ∈ left := by rw [List.getD_eq_getElem?_getD, List.getElem?_eq_getElem hj]; exact List.getElem_mem hj
            unfold bf
            rw [g2_map hi hj]
            generalize left.getD i (0, 0, 0) = t at hti
            generalize left.getD j (0, 0, 0) = u at htj
            obtain ⟨b1, b2⟩ := bits2 t hti
            obtain ⟨q1, q2⟩ := hat t hti
            obtain ⟨p1, p2⟩ := hat u htj
            unfold feelStep
            rw [dx (xor_bit (g2_bit bF _ _) (and_bit b1)) (and_bit b2), dx (g2_bit bF _ _) (and_bit b1), da b1 (bits2 u htj).2, da b2 (bits2 u htj).1, q1, q2, p1, p2]
        rw [c]
        generalize Ga (left.map Prod.fst) (fun k => ((bm marks k ^^ (bm marks 0 && bf feel mate k)) ^^ (bm marks mate && bf feel 0 k)) ^^ (bf feel 0 k && bf feel mate k)) (fun j k => (bf feel j k ^^ (bf feel 0 j && bf feel mate k)) ^^ (bf feel mate j && bf feel 0 k)) = T at key ⊢
        generalize Ga (left.map Prod.fst) (bm marks) (bf feel) = A1 at key ⊢
        generalize Ga (left.map Prod.fst) (fun k => bm marks k ^^ bf feel mate k) (bf feel) = A2 at key ⊢
        generalize Ga (left.map Prod.fst) (fun k => bm marks k ^^ bf feel 0 k) (bf feel) = A3 at key ⊢
        generalize Ga (left.map Prod.fst) (fun k => (bm marks k ^^ bf feel 0 k) ^^ bf feel mate k) (bf feel) = A4 at key ⊢
        rw [Int.mul_assoc]
        congr 1
        unfold bm at key ⊢
        have e1 : marks.getD mate 0 = 0 ∨ marks.getD mate 0 = 1 := by have := bM.at mate; omega
        rcases e0 with e | e <;> rcases e1 with e' | e' <;> rw [e, e'] at key ⊢ <;> simp [sg] at key ⊢ <;> omega
      · intro x hx
        obtain ⟨t, ht, rfl⟩ := List.mem_map.mp hx
        obtain ⟨b1, b2⟩ := bits2 t ht
        unfold markStep
        exact xor_bit (xor_bit (xor_bit (bM.at _) (and_bit b2)) (and_bit b1)) (and_bit b1)
      · intro r hr x hx
        obtain ⟨t, ht, rfl⟩ := List.mem_map.mp hr
        obtain ⟨u, hu, rfl⟩ := List.mem_map.mp hx
        obtain ⟨b1, b2⟩ := bits2 t ht
        unfold feelStep
        exact xor_bit (xor_bit (g2_bit bF _ _) (and_bit b1)) (and_bit b2)
      · refine sq_sym sq' fun j k hj hk => ?_
        rw [hlm] at hj hk
        rw [g2_map hj hk, g2_map hk hj]
        unfold feelStep
        generalize left.getD j (0, 0, 0) = t
        generalize left.getD k (0, 0, 0) = u
        rw [sy t.1 u.1, Nat.xor_assoc, Nat.xor_assoc, Nat.xor_comm (t.2.1 &&& u.2.2), Nat.and_comm t.2.2, Nat.and_comm t.2.1]
      · intro j
        rcases Nat.lt_or_ge j left.length with hj | hj
        · rw [g2_map hj hj]
          unfold feelStep
          generalize left.getD j (0, 0, 0) = t
          rw [dg, Nat.zero_xor, Nat.and_comm t.2.2, Nat.xor_self]
        · unfold g2
          have e : (left.map fun t => left.map (feelStep feel t)).getD j [] = [] := by rw [List.getD_eq_getElem?_getD, List.getElem?_eq_none (by rw [List.length_map]; exact hj)]; rfl
          rw [e]; rfl
end Mine
end
/-! text P5 -/
section
open PySem
namespace Mine
theorem sums_snoc (ws : List Nat) (w : Nat) : sumsN (ws ++ [w]) = sumsN ws ++ (sumsN ws).map (· ^^^ w) := by unfold sumsN; rw [List.foldl_append]; rfl
/-- linear maps go through the sums -/
theorem sums_map {f : Nat → Nat} (hf : Lin f) (ws : List Nat) : (sumsN ws).map f = sumsN (ws.map f) := by
  suffices h : ∀ (l : List Nat), (sumsN l.reverse).map f = sumsN (l.reverse.map f) by
    have := h ws.reverse
    rwa [List.reverse_reverse] at this
  intro l
  induction l with
  | nil => show [f 0] = [0]; rw [hf.zero]
  | cons w r ih =>
    rw [List.reverse_cons, sums_snoc, List.map_append, List.map_append, List.map_cons, List.map_nil, sums_snoc, ih, ← ih, List.map_map, List.map_map]
    congr 1
    refine List.map_congr_left fun x _ => ?_
    exact hf x w
/-- the value of a form at a word -/
def qv (f : Nat → Nat) (x : Nat) : Bool := decide (oddN (x &&& f x) = 1)
def bv (f : Nat → Nat) (x y : Nat) : Bool := decide (oddN (x &&& f y) = 1) ^^ decide (oddN (y &&& f x) = 1)
theorem odd_xor (a b : Nat) : decide (oddN (a ^^^ b) = 1) = (decide (oddN a = 1) ^^ decide (oddN b = 1)) := by rw [oddN_lin, dx (oddN_bit _) (oddN_bit _)]
theorem qv_xor {f : Nat → Nat} (hf : Lin f) (x y : Nat) : qv f (x ^^^ y) = ((qv f x ^^ qv f y) ^^ bv f x y) := by
  unfold qv bv
  rw [hf, Nat.and_xor_distrib_right, Nat.and_xor_distrib_left, Nat.and_xor_distrib_left, odd_xor, odd_xor, odd_xor]
  cases decide (oddN (x &&& f x) = 1) <;> cases decide (oddN (x &&& f y) = 1) <;> cases decide (oddN (y &&& f x) = 1) <;> cases decide (oddN (y &&& f y) = 1) <;> rfl
theorem bv_xor {f : Nat → Nat} (hf : Lin f) (x y w : Nat) : bv f (x ^^^ y) w = (bv f x w ^^ bv f y w) := by
  unfold bv
  rw [hf, Nat.and_xor_distrib_right, Nat.and_xor_distrib_left, odd_xor, odd_xor]
  cases decide (oddN (x &&& f w) = 1) <;> cases decide (oddN (y &&& f w) = 1) <;> cases decide (oddN (w &&& f x) = 1) <;> cases decide (oddN (w &&& f y) = 1) <;> rfl
theorem bv_sym (f : Nat → Nat) (x y : Nat) : bv f x y = bv f y x := by unfold bv; exact Bool.xor_comm _ _
theorem odd0 : oddN 0 = 0 := oddN_lin.zero
/-- the sum of signs over the sums -/
theorem sums_ga {f : Nat → Nat} (hf : Lin f) : ∀ (r : List Nat) (L : Nat → Bool), (∀ x y, L (x ^^^ y) = (L x ^^ L y)) →
    ((sumsN r.reverse).map fun x => sg (qv f x ^^ L x)).sum = Ga r (fun w => qv f w ^^ L w) (bv f)
  | [], L, hL => by
    have h0 : L 0 = false := by have := hL 0 0; rw [Nat.xor_self] at this; cases h : L 0 <;> rw [h] at this <;> first | rfl | cases this
    show sg (qv f 0 ^^ L 0) + 0 = 1
    have : qv f 0 = false := by unfold qv; rw [Nat.zero_and, odd0]; rfl
    rw [this, h0]; rfl
  | w :: r, L, hL => by
    rw [List.reverse_cons, sums_snoc, List.map_append, List.sum_append, sums_ga hf r L hL, List.map_map]
    show _ = Ga r (fun w => qv f w ^^ L w) (bv f) + sg (qv f w ^^ L w) * Ga r (fun k => (qv f k ^^ L k) ^^ bv f w k) (bv f)
    congr 1
    have e : ((sumsN r.reverse).map ((fun x => sg (qv f x ^^ L x)) ∘ fun x => x ^^^ w)) = (sumsN r.reverse).map fun x => sg (qv f w ^^ L w) * sg (qv f x ^^ (L x ^^ bv f w x)) := by
      refine List.map_congr_left fun x _ => ?_
      show sg (qv f (x ^^^ w) ^^ L (x ^^^ w)) = _
      rw [qv_xor hf, hL, bv_sym f w x, ← sg_xor]
      congr 1
      cases qv f x <;> cases qv f w <;> cases bv f x w <;> cases L x <;> cases L w <;> rfl
    have sm : ∀ (c : Int) (l : List Nat) (h : Nat → Int), (l.map fun x => c * h x).sum = c * (l.map h).sum := fun c l h => by
      induction l with
      | nil => simp
      | cons a r ih => simp only [List.map_cons, List.sum_cons, ih, Int.mul_add]
    rw [e, sm, sums_ga hf r (fun x => L x ^^ bv f w x) (fun x y => by
      show (L (x ^^^ y) ^^ bv f w (x ^^^ y)) = _
      rw [hL, bv_sym f w, bv_xor hf, bv_sym f w x, bv_sym f w y]
      cases L x <;> cases L y <;> cases bv f x w <;> cases bv f y w <;> rfl)]
    congr 1
    refine Ga.congr _ _ _ (fun i _ => ?_) fun _ _ _ _ => rfl
    cases qv f i <;> cases L i <;> cases bv f w i <;> rfl
end Mine
end
/-! text P6 -/
section
open PySem
namespace Mine
def rowF (f : Nat → Nat) (ws : List Nat) : List Nat := (sumsN ws).map fun x => oddN (x &&& f x)
theorem g2_odd {ws : List Nat} {f : Nat → Nat} {j k : Nat} (hj : j < ws.length) (hk : k < ws.length) : g2 (oddRows ws (ws.map f)) j k = oddN (ws.getD j 0 &&& f (ws.getD k 0)) := by
  unfold g2 oddRows
  simp [List.getD_eq_getElem?_getD, List.getElem?_eq_getElem hj, List.getElem?_eq_getElem hk]
theorem diag_at {rows : List (List Nat)} {n i : Nat} (hi : i < n) : (diagN rows n).getD i 0 = g2 rows i i := by
  unfold diagN
  rw [List.getD_eq_getElem?_getD, List.getElem?_map, List.getElem?_range hi]; rfl
theorem sym_at {rows : List (List Nat)} {n i j : Nat} (hi : i < n) (hj : j < n) : g2 (symN rows n) i j = g2 rows i j ^^^ g2 rows j i := by
  have e : (symN rows n).getD i [] = (List.range n).map fun k => g2 rows i k ^^^ g2 rows k i := by
    unfold symN
    rw [List.getD_eq_getElem?_getD, List.getElem?_map, List.getElem?_range hi]; rfl
  show ((symN rows n).getD i []).getD j 0 = _
  rw [e, List.getD_eq_getElem?_getD, List.getElem?_map, List.getElem?_range hj]; rfl
theorem sym_sq (rows : List (List Nat)) (n : Nat) : Sq (symN rows n) n := by
  unfold symN
  refine ⟨by simp, fun r hr => ?_⟩
  obtain ⟨x, _, rfl⟩ := List.mem_map.mp hr
  simp
theorem sg_bit {n : Nat} (h : n ≤ 1) : sg (decide (n = 1)) = 1 - 2 * (n : Int) := by
  have e : n = 0 ∨ n = 1 := by omega
  rcases e with rfl | rfl <;> decide
theorem odd_bits (ws made : List Nat) : ∀ r ∈ oddRows ws made, Bits r := fun r hr x hx => by
  obtain ⟨y, _, rfl⟩ := List.mem_map.mp hr
  obtain ⟨z, _, rfl⟩ := List.mem_map.mp hx
  exact oddN_bit _
theorem lead_sum {f : Nat → Nat} (hf : Lin f) (ws : List Nat) : leadOf ws (ws.map f) = ((sumsN ws).length : Int) - 2 * (((rowF f ws).sum : Nat) : Int) := by
  have hb := odd_bits ws (ws.map f)
  have hdl : (diagN (oddRows ws (ws.map f)) ws.length).length = ws.length := by simp [diagN]
  have h1 : leadOf ws (ws.map f) = Ga (List.range ws.length) (bm (diagN (oddRows ws (ws.map f)) ws.length)) (bf (symN (oddRows ws (ws.map f)) ws.length)) := by
    unfold leadOf
    rw [lead_ga ws.length _ _ _ (by rw [hdl]; exact Nat.le_refl _) (by rw [hdl]; exact sym_sq _ _) ?_ ?_ ?_ ?_, hdl, Int.one_mul]
    · intro x hx
      obtain ⟨k, _, rfl⟩ := List.mem_map.mp hx
      exact g2_bit hb _ _
    · intro r hr x hx
      obtain ⟨j, _, rfl⟩ := List.mem_map.mp hr
      obtain ⟨k, _, rfl⟩ := List.mem_map.mp hx
      exact xor_bit (g2_bit hb _ _) (g2_bit hb _ _)
    · exact sq_sym (sym_sq _ _) fun j k hj hk => by rw [sym_at hj hk, sym_at hk hj, Nat.xor_comm]
    · intro j
      rcases Nat.lt_or_ge j ws.length with hj | hj
      · rw [sym_at hj hj, Nat.xor_self]
      · have e : (symN (oddRows ws (ws.map f)) ws.length).getD j [] = [] := by rw [List.getD_eq_getElem?_getD, List.getElem?_eq_none (by rw [(sym_sq _ _).1]; exact hj)]; rfl
        show ((symN (oddRows ws (ws.map f)) ws.length).getD j []).getD j 0 = 0
        rw [e]; rfl
  have h2 := sums_ga hf ws.reverse (fun _ => false) fun _ _ => rfl
  rw [List.reverse_reverse] at h2
  have h3 : Ga ws.reverse (fun w => qv f w ^^ false) (bv f) = Ga ws (fun w => qv f w ^^ false) (bv f) := Ga.perm (bv_sym f) (List.reverse_perm ws) _
  have h4 : Ga ws (fun w => qv f w ^^ false) (bv f) = Ga (List.range ws.length) (bm (diagN (oddRows ws (ws.map f)) ws.length)) (bf (symN (oddRows ws (ws.map f)) ws.length)) := by
    have e : ws = (List.range ws.length).map fun i => ws.getD i 0 := by
      have := range_map_getD ws 0 (fun x => x)
      rw [List.map_id'] at this
      exact this.symm
    conv => lhs; rw [e]
    rw [Ga.map]
    refine Ga.congr _ _ _ (fun i hi => ?_) fun i hi j hj => ?_
    · have hi := List.mem_range.mp hi
      unfold bm qv
      rw [diag_at hi, g2_odd hi hi]
      cases decide (oddN (ws.getD i 0 &&& f (ws.getD i 0)) = 1) <;> rfl
    · have hi := List.mem_range.mp hi
      have hj := List.mem_range.mp hj
      unfold bf bv
      rw [sym_at hi hj, g2_odd hi hj, g2_odd hj hi, dx (oddN_bit _) (oddN_bit _)]
  rw [h1, ← h4, ← h3, ← h2]
  unfold rowF
  generalize sumsN ws = l
  induction l with
  | nil => rfl
  | cons x r ih =>
    simp only [List.map_cons, List.sum_cons, List.length_cons]
    rw [ih]
    have : sg (qv f x ^^ false) = 1 - 2 * ((oddN (x &&& f x) : Nat) : Int) := by
      rw [Bool.xor_false]; exact sg_bit (oddN_bit _)
    rw [this]
    push_cast
    omega
end Mine
end
/-! text P7 -/
section
open PySem
namespace Mine
theorem lead_dvd : ∀ (f : Nat) (marks : List Nat) (feel : List (List Nat)) (l : Int), marks.length ≤ f → (∀ j, g2 feel j j = 0) →
    ∃ c, leadN f marks feel l = l * c ∧ (3 ≤ marks.length → ∃ d, c = 4 * d) ∧ (1 ≤ marks.length → ∃ d, c = 2 * d)
  | 0, marks, feel, l, hl, _ => by
    obtain rfl : marks = [] := List.length_eq_zero_iff.mp (by omega)
    exact ⟨1, by rw [leadN_end]; simp, fun h => by simp at h, fun h => by simp at h⟩
  | f + 1, marks, feel, l, hl, dg => by
    by_cases hnil : marks = []
    · subst hnil; exact ⟨1, by rw [leadN_end]; simp, fun h => by simp at h, fun h => by simp at h⟩
    cases hmt : matesN marks.length feel with
    | nil =>
      rw [leadN_nil hnil hmt]
      have hd : (marks.drop 1).length = marks.length - 1 := List.length_drop
      obtain ⟨c, e, h3, h1⟩ := lead_dvd f (marks.drop 1) ((feel.drop 1).map (List.drop 1)) (l * (2 - 2 * (marks.getD 0 0 : Nat))) (by omega) fun j => by rw [g2_drop, dg]
      refine ⟨(2 - 2 * (marks.getD 0 0 : Nat)) * c, by rw [e, Int.mul_assoc], fun h => ?_, fun h => ⟨(1 - (marks.getD 0 0 : Nat)) * c, ?_⟩⟩
      · have hq : 1 ≤ (marks.drop 1).length := by clear h1 h3 e; omega
        obtain ⟨d, rfl⟩ := h1 hq
        refine ⟨(1 - (marks.getD 0 0 : Nat)) * d, ?_⟩
        generalize ((marks.getD 0 0 : Nat) : Int) = z
        rw [show (2 - 2 * z) = 2 * (1 - z) by omega, Int.mul_assoc, Int.mul_left_comm (1 - z) 2 d, ← Int.mul_assoc 2 2]; rfl
      · generalize ((marks.getD 0 0 : Nat) : Int) = z
        rw [show (2 - 2 * z) = 2 * (1 - z) by omega, Int.mul_assoc]
    | cons mate rest =>
      rw [leadN_cons hnil hmt]
      have hmem : mate ∈ matesN marks.length feel := by rw [hmt]; exact List.mem_cons_self
      have hmate : mate < marks.length := List.mem_range.mp (List.mem_filter.mp hmem).1
      have h0m : g2 feel 0 mate = 1 := of_decide_eq_true (List.mem_filter.mp hmem).2
      have hne : mate ≠ 0 := fun q => by rw [q, dg] at h0m; cases h0m
      have hlen : (leftN marks.length feel mate).length = marks.length - 2 := by
        have := (left_perm hmate hne).length_eq
        simp only [List.length_cons, List.length_map, List.length_range] at this
        unfold leftN
        rw [List.length_map]
        omega
      generalize leftN marks.length feel mate = left at hlen ⊢
      obtain ⟨c, e, h3, h1⟩ := lead_dvd f (left.map (markStep marks mate)) (left.map fun t => left.map (feelStep feel t)) (l * (2 - 4 * (marks.getD 0 0 : Nat) * (marks.getD mate 0 : Nat))) (by rw [List.length_map]; omega) fun j => by
        rcases Nat.lt_or_ge j left.length with hj | hj
        · rw [g2_map hj hj]
          unfold feelStep
          generalize left.getD j (0, 0, 0) = t
          rw [dg, Nat.zero_xor, Nat.and_comm t.2.2, Nat.xor_self]
        · unfold g2
          have e : (left.map fun t => left.map (feelStep feel t)).getD j [] = [] := by rw [List.getD_eq_getElem?_getD, List.getElem?_eq_none (by rw [List.length_map]; exact hj)]; rfl
          rw [e]; rfl
      rw [List.length_map, hlen] at h3 h1
      have e4 : (4 * ((marks.getD 0 0 : Nat) : Int) * ((marks.getD mate 0 : Nat) : Int)) = 4 * (((marks.getD 0 0 : Nat) : Int) * ((marks.getD mate 0 : Nat) : Int)) := Int.mul_assoc ..
      rw [e4] at e ⊢
      generalize ((marks.getD 0 0 : Nat) : Int) * ((marks.getD mate 0 : Nat) : Int) = z at e ⊢
      refine ⟨(2 - 4 * z) * c, by rw [e, Int.mul_assoc], fun h => ?_, fun h => ⟨(1 - 2 * z) * c, ?_⟩⟩
      · have hq : 1 ≤ marks.length - 2 := by clear h1 h3 e; omega
        obtain ⟨d, rfl⟩ := h1 hq
        refine ⟨(1 - 2 * z) * d, ?_⟩
        rw [show (2 - 4 * z) = 2 * (1 - 2 * z) by omega, Int.mul_assoc, Int.mul_left_comm (1 - 2 * z) 2 d, ← Int.mul_assoc 2 2]; rfl
      · rw [show (2 - 4 * z) = 2 * (1 - 2 * z) by omega, Int.mul_assoc]
theorem lead4 {ws made : List Nat} (h : 3 ≤ ws.length) : ∃ d, leadOf ws made = 4 * d := by
  have hdl : (diagN (oddRows ws made) ws.length).length = ws.length := by simp [diagN]
  obtain ⟨c, e, h3, _⟩ := lead_dvd ws.length (diagN (oddRows ws made) ws.length) (symN (oddRows ws made) ws.length) 1 (by rw [hdl]; exact Nat.le_refl _) fun j => by
    rcases Nat.lt_or_ge j ws.length with hj | hj
    · rw [sym_at hj hj, Nat.xor_self]
    · have e : (symN (oddRows ws made) ws.length).getD j [] = [] := by rw [List.getD_eq_getElem?_getD, List.getElem?_eq_none (by rw [(sym_sq _ _).1]; exact hj)]; rfl
      show ((symN (oddRows ws made) ws.length).getD j []).getD j 0 = 0
      rw [e]; rfl
  rw [hdl] at h3
  obtain ⟨d, rfl⟩ := h3 h
  exact ⟨d, by unfold leadOf; rw [e, Int.one_mul]⟩
theorem count_sum : ∀ (l : List Nat), (∀ x ∈ l, x ≤ 1) → l.count 0 + l.sum = l.length
  | [], _ => rfl
  | x :: r, h => by
    have ih := count_sum r fun y hy => h y (List.mem_cons_of_mem _ hy)
    have e : x = 0 ∨ x = 1 := by have := h x List.mem_cons_self; omega
    rcases e with rfl | rfl
    · rw [List.count_cons_self]; simp only [List.sum_cons, List.length_cons]; omega
    · rw [List.count_cons_of_ne (by decide)]; simp only [List.sum_cons, List.length_cons]; omega
theorem row_ok {n : Nat} {row : List Nat} {t : List Nat} {more d : Int} (hn : n = 16 ∨ n = 32) (hl : row.length = n) (hb : ∀ x ∈ row, x ≤ 1) (hs : more = (n : Int) - 2 * ((row.sum : Nat) : Int)) (hd : more = 4 * d) (hr : row = 0 :: t) : RowOk n row more := by
  have hc := count_sum row hb
  refine ⟨hl, hb, by omega, ?_⟩
  have c1 : t.count 0 + 1 = row.count 0 := by rw [hr, List.count_cons_self]
  have hlt : t.length + 1 = n := by rw [← hl, hr]; rfl
  have hd1 : row.drop 1 = t := by rw [hr]; rfl
  have a1 : (row ++ [0]).count 0 = row.count 0 + 1 := by rw [List.count_append]; rfl
  have a2 : (row ++ [0, 0]).count 0 = row.count 0 + 2 := by rw [List.count_append]; rfl
  have a3 : (row ++ [1, 1]).count 0 = row.count 0 := by rw [List.count_append]; rfl
  have l1 : (row ++ [0]).length = n + 1 := by rw [List.length_append, hl]; rfl
  have l2 : (row ++ [0, 0]).length = n + 2 := by rw [List.length_append, hl]; rfl
  have l3 : (row ++ [1, 1]).length = n + 2 := by rw [List.length_append, hl]; rfl
  intro p hp
  unfold votesN at hp
  rw [hd1] at hp
  simp only [List.mem_cons, List.not_mem_nil, or_false] at hp
  have mk : ∀ (v : List Nat) (c len i j : Nat), v.count 0 = c → v.length = len → (i = if lowI len < c then 0 else 1) → (j = if len / 2 < c then 0 else 1) → [i, j] = [midN v (lowI v.length), midN v (v.length / 2)] := fun v c len i j h1 h2 h3 h4 => by
    unfold midN
    rw [h1, h2, ← h3, ← h4]
  rcases hp with rfl | rfl | rfl | rfl | rfl
  · refine mk _ _ _ _ _ rfl hl ?_ ?_ <;> simp only [lowOf, highOf, lowI] <;> (repeat' split) <;> omega
  · refine mk _ _ _ _ _ rfl rfl ?_ ?_ <;> simp only [lowOf, highOf, lowI] <;> (repeat' split) <;> omega
  · refine mk _ _ _ _ _ a1 l1 ?_ ?_ <;> simp only [lowOf, highOf, lowI] <;> (repeat' split) <;> omega
  · refine mk _ _ _ _ _ a2 l2 ?_ ?_ <;> simp only [lowOf, highOf, lowI] <;> (repeat' split) <;> omega
  · refine mk _ _ _ _ _ a3 l3 ?_ ?_ <;> simp only [lowOf, highOf, lowI] <;> (repeat' split) <;> omega
end Mine
end
/-! text P8 -/
section
open PySem
namespace Mine
theorem words_lt (zs : List Int) : ∀ w ∈ wordsN zs, w < 2 ^ 32 := fun w hw => by
  unfold wordsN at hw
  obtain ⟨z, _, rfl⟩ := List.mem_map.mp hw
  have h1 := Int.fmod_lt_of_pos z (show (0 : Int) < 4294967296 by decide)
  have h2 := Int.fmod_nonneg_of_pos z (show (0 : Int) < 4294967296 by decide)
  omega
theorem words_len (zs : List Int) : (wordsN zs).length = 4 ∨ (wordsN zs).length = 5 := by
  unfold wordsN
  rw [List.length_map, List.length_append, List.length_map, List.length_drop, List.length_take]
  simp only [padN, List.length_cons, List.length_nil]
  omega
theorem sums_head (ws : List Nat) : ∃ t, sumsN ws = 0 :: t := by
  unfold sumsN
  have : ∀ (l : List Nat) (t : List Nat), ∃ t', l.foldl sumStep (0 :: t) = 0 :: t' := fun l => by
    induction l with
    | nil => intro t; exact ⟨t, rfl⟩
    | cons x r ih => intro t; exact ih _
  exact this ws []
theorem zip_map {f : Nat → Nat} {g : Nat → Nat → Nat} : ∀ l : List Nat, List.zipWith g l (l.map f) = l.map fun x => g x (f x)
  | [] => rfl
  | x :: r => by rw [List.map_cons, List.zipWith_cons_cons, zip_map r, List.map_cons]
theorem once_map {ws : List Nat} (h : ∀ w ∈ ws, w < 2 ^ 32) : onceN ws = ws.map crcN := List.map_congr_left fun w hw => rest_crc (h w hw)
theorem twice_map {ws : List Nat} (h : ∀ w ∈ ws, w < 2 ^ 32) : twiceN ws = ws.map fun w => crcN (crcN w) := by
  unfold twiceN
  rw [once_map h, List.map_map]
  exact List.map_congr_left fun w hw => rest_crc (crc_lt (h w hw))
theorem first_map (ws : List Nat) : firstN ws = (sumsN ws).map crcN := rfl
theorem second_map (ws : List Nat) : secondN ws = (sumsN ws).map fun x => crcN (crcN x) := by unfold secondN firstN; rw [List.map_map]; rfl
theorem both_map {ws : List Nat} (h : ∀ w ∈ ws, w < 2 ^ 32) : bothN ws = ws.map fun w => crcN w ^^^ crcN (crcN w) := by
  unfold bothN
  rw [once_map h, twice_map h]
  induction ws with
  | nil => rfl
  | cons x r ih => rw [List.map_cons, List.map_cons, List.zipWith_cons_cons, ih fun w hw => h w (List.mem_cons_of_mem _ hw), List.map_cons]
theorem row_of {f : Nat → Nat} (ws : List Nat) : rowN ws ((sumsN ws).map f) = rowF f ws := by unfold rowN rowF; exact zip_map _
theorem row_good {f : Nat → Nat} (hf : Lin f) {ws : List Nat} (h : ws.length = 4 ∨ ws.length = 5) : RowOk (sumsN ws).length (rowF f ws) (leadOf ws (ws.map f)) := by
  have hSl : (sumsN ws).length = 2 ^ ws.length := by unfold sumsN; rw [sums_len]; simp
  have hSn : (sumsN ws).length = 16 ∨ (sumsN ws).length = 32 := by rcases h with e | e <;> rw [hSl, e] <;> decide
  obtain ⟨d, hd⟩ := lead4 (ws := ws) (made := ws.map f) (by omega)
  obtain ⟨t, ht⟩ := sums_head ws
  refine row_ok (t := t.map fun x => oddN (x &&& f x)) hSn (by unfold rowF; rw [List.length_map]) (fun x hx => ?_) (lead_sum hf ws) hd ?_
  · obtain ⟨y, _, rfl⟩ := List.mem_map.mp hx
    exact oddN_bit _
  · unfold rowF
    rw [ht, List.map_cons, Nat.zero_and, odd0]
end Mine
end
/-! text P9 -/
section
open PySem
namespace Mine
theorem psum_cov (a b : Nat → Int) (N X Y c : Int) : ∀ i, psum (fun j => (N * a j - X) * (N * b j - Y) * c) i = (N * N * psum (fun j => a j * b j) i - N * Y * psum a i - N * X * psum b i + (i : Int) * (X * Y)) * c
  | 0 => by simp [psum]
  | i + 1 => by
    rw [psum_succ, psum_succ, psum_succ, psum_succ, psum_cov a b N X Y c i]
    rw [← Int.add_mul]
    congr 1
    have e : (N * a i - X) * (N * b i - Y) = N * N * (a i * b i) - N * Y * a i - N * X * b i + X * Y := by
      rw [Int.sub_mul, Int.mul_sub, Int.mul_sub]
      have e1 : N * a i * (N * b i) = N * N * (a i * b i) := by simp only [Int.mul_comm, Int.mul_left_comm, Int.mul_assoc]
      have e2 : N * a i * Y = N * Y * a i := by simp only [Int.mul_comm, Int.mul_left_comm, Int.mul_assoc]
      have e3 : X * (N * b i) = N * X * b i := by simp only [Int.mul_comm, Int.mul_left_comm, Int.mul_assoc]
      omega
    have e5 : ((i + 1 : Nat) : Int) * (X * Y) = (i : Int) * (X * Y) + X * Y := by
      rw [Int.natCast_add, Int.add_mul]; simp
    rw [e, e5, Int.mul_add, Int.mul_add, Int.mul_add]
    omega
theorem sum_cast : ∀ l : List Nat, (l.map fun (x : Nat) => (x : Int)).sum = ((l.sum : Nat) : Int)
  | [] => rfl
  | x :: r => by simp only [List.map_cons, List.sum_cons, sum_cast r]; omega
theorem psum_one (l : List Nat) (g : Nat → Nat) : psum (fun j => (((l.map g).getD j 0 : Nat) : Int)) l.length = (((l.map g).sum : Nat) : Int) := by
  unfold psum
  rw [← sum_cast, ← range_map_getD (l.map g) 0 (fun (x : Nat) => (x : Int)), List.length_map]
theorem psum_two (l : List Nat) (g h : Nat → Nat) : psum (fun j => (((l.map g).getD j 0 : Nat) : Int) * (((l.map h).getD j 0 : Nat) : Int)) l.length = (((l.map fun x => g x * h x).sum : Nat) : Int) := by
  have e := psum_one l fun x => g x * h x
  rw [← e]
  unfold psum
  congr 1
  refine List.map_congr_left fun j hj => ?_
  have hj := List.mem_range.mp hj
  simp [List.getD_eq_getElem?_getD, List.getElem?_eq_getElem hj]
theorem xor_sum (l : List Nat) (g h : Nat → Nat) (hg : ∀ x, g x ≤ 1) (hh : ∀ x, h x ≤ 1) : (((l.map fun x => g x ^^^ h x).sum : Nat) : Int) = ((l.map g).sum : Nat) + ((l.map h).sum : Nat) - 2 * ((l.map fun x => g x * h x).sum : Nat) := by
  induction l with
  | nil => rfl
  | cons x r ih =>
    simp only [List.map_cons, List.sum_cons]
    have e1 : g x = 0 ∨ g x = 1 := by have := hg x; omega
    have e2 : h x = 0 ∨ h x = 1 := by have := hh x; omega
    have : ((g x ^^^ h x : Nat) : Int) = (g x : Int) + (h x : Int) - 2 * ((g x * h x : Nat) : Int) := by
      rcases e1 with e1 | e1 <;> rcases e2 with e2 | e2 <;> rw [e1, e2] <;> decide
    omega
theorem cov_arith {n : Nat} {X Y Z l1 l2 l3 p : Int} (hn : n = 16 ∨ n = 32) (h1 : l1 = n - 2 * X) (h2 : l2 = n - 2 * Y) (h3 : l3 = n - 2 * (X + Y - 2 * Z))
    (hp : p = ((n : Int) * n * Z - n * Y * X - n * X * Y + (n : Int) * (X * Y)) * (2 ^ 30 / ((n : Int) * n))) : ((n : Int) * l3 - l1 * l2) * 2 ^ 30 = p * (4 * (n : Int)) := by
  subst h1 h2 h3 hp
  have e : ((n : Int) - 2 * X) * ((n : Int) - 2 * Y) = (n : Int) * n - 2 * (n * X) - 2 * (n * Y) + 4 * (X * Y) := by
    rw [Int.sub_mul, Int.mul_sub, Int.mul_sub]
    have e1 : 2 * X * (2 * Y) = 4 * (X * Y) := by rw [Int.mul_assoc, Int.mul_left_comm X 2 Y, ← Int.mul_assoc 2 2]; rfl
    have e2 : (n : Int) * (2 * Y) = 2 * (n * Y) := Int.mul_left_comm ..
    have e3 : 2 * X * (n : Int) = 2 * (n * X) := by rw [Int.mul_assoc, Int.mul_comm X]
    omega
  have e4 : (n : Int) * Y * X = n * (X * Y) := by rw [Int.mul_assoc, Int.mul_comm Y]
  have e5 : (n : Int) * X * Y = n * (X * Y) := Int.mul_assoc ..
  rw [e, e4, e5]
  generalize X * Y = P
  rcases hn with rfl | rfl <;> omega
end Mine
end
/-! text P10 -/
section
open PySem
namespace Mine
theorem good_ws {ws : List Nat} (hl : ws.length = 4 ∨ ws.length = 5) (hb : ∀ w ∈ ws, w < 2 ^ 32) : GoodWs ws := by
  have hSl : (sumsN ws).length = 2 ^ ws.length := by unfold sumsN; rw [sums_len]; simp
  have hSn : (sumsN ws).length = 16 ∨ (sumsN ws).length = 32 := by rcases hl with e | e <;> rw [hSl, e] <;> decide
  have f1 : Lin crcN := crcN_lin
  have f2 : Lin fun x => crcN (crcN x) := crcN_lin.comp crcN_lin
  have f3 : Lin fun x => crcN x ^^^ crcN (crcN x) := f1.xor f2
  have r1 : rowN ws (firstN ws) = rowF crcN ws := row_of ws
  have r2 : rowN ws (secondN ws) = rowF (fun x => crcN (crcN x)) ws := by rw [second_map]; exact row_of ws
  have g1 : leadOf ws (onceN ws) = ((sumsN ws).length : Int) - 2 * (((rowF crcN ws).sum : Nat) : Int) := by rw [once_map hb]; exact lead_sum f1 ws
  have g2 : leadOf ws (twiceN ws) = ((sumsN ws).length : Int) - 2 * (((rowF (fun x => crcN (crcN x)) ws).sum : Nat) : Int) := by rw [twice_map hb]; exact lead_sum f2 ws
  have g3 : leadOf ws (bothN ws) = ((sumsN ws).length : Int) - 2 * (((rowF (fun x => crcN x ^^^ crcN (crcN x)) ws).sum : Nat) : Int) := by rw [both_map hb]; exact lead_sum f3 ws
  have x3 : (((rowF (fun x => crcN x ^^^ crcN (crcN x)) ws).sum : Nat) : Int) = ((rowF crcN ws).sum : Nat) + ((rowF (fun x => crcN (crcN x)) ws).sum : Nat) - 2 * (((sumsN ws).map fun x => oddN (x &&& crcN x) * oddN (x &&& crcN (crcN x))).sum : Nat) := by
    have e : rowF (fun x => crcN x ^^^ crcN (crcN x)) ws = (sumsN ws).map fun x => oddN (x &&& crcN x) ^^^ oddN (x &&& crcN (crcN x)) := by
      unfold rowF
      refine List.map_congr_left fun x _ => ?_
      rw [Nat.and_xor_distrib_left, oddN_lin]
    rw [e]
    exact xor_sum _ _ _ (fun _ => oddN_bit _) fun _ => oddN_bit _
  refine ⟨hl, ?_, ?_, ?_, ?_, ?_, ?_⟩
  · rw [first_map, once_map hb]; exact sums_map f1 ws
  · rw [second_map, twice_map hb]; exact sums_map f2 ws
  · rw [r1, once_map hb]; exact row_good f1 hl
  · rw [r2, twice_map hb]; exact row_good f2 hl
  · rw [r1, r2]
    refine cov_arith hSn g1 g2 (by rw [g3, x3]) ?_
    have hl1 : (rowF crcN ws).length = (sumsN ws).length := by unfold rowF; rw [List.length_map]
    unfold covP
    rw [hl1, psum_cov]
    unfold rowF
    rw [psum_two, psum_one, psum_one]
  · have : (rowF (fun x => crcN x ^^^ crcN (crcN x)) ws).sum ≤ (rowF (fun x => crcN x ^^^ crcN (crcN x)) ws).length := sum01 _ fun x hx => by
      obtain ⟨y, _, rfl⟩ := List.mem_map.mp hx
      exact oddN_bit _
    have hl3 : (rowF (fun x => crcN x ^^^ crcN (crcN x)) ws).length = (sumsN ws).length := by unfold rowF; rw [List.length_map]
    rw [g3]
    omega
theorem good_words (zs : List Int) : GoodWs (wordsN zs) := good_ws (words_len zs) (words_lt zs)
end Mine
end
/-! text J0 -/
section
open PySem PySem.Calls PySem.W PyProof.Rows
namespace Mine
theorem kp_keys (w : World) : (Kp w).map (·.1) = [2, 3, 6, 43, 50, 51, 52, 53, 56, 57, 59, 60, 62, 63, 64, 66, 67, 69, 70, 71, 73, 74, 76, 77, 78, 80, 81, 83,
          84, 85, 87, 88, 90, 91, 92, 94, 95, 97, 98, 99, 101, 102, 104, 105, 106, 108, 109, 111, 112, 113, 116, 117,
          118, 121, 122, 123, 126, 127] := by with_unfolding_all rfl
theorem cov_mem : ∃ d ∈ recsOf hd16.view_39, d.name = Str.ofString "covariance" := by
  have h : ((recsOf hd16.view_39).map (fun d => d.name)).contains (Str.ofString "covariance") = true := by with_unfolding_all rfl
  have := List.contains_iff_mem.mp h
  obtain ⟨d, hd, e⟩ := List.mem_map.mp this
  exact ⟨d, hd, e⟩
theorem gx_of {w : World} {h : Heap} {loose : List Str} {mean : ExcName → Option Value} {mg mb : Str → Option Value} (KX : (Kp w).In h) (T : Top hd16.view_39 loose mean mg mb h) : Gx w h mg mb where
  K := KX
  g := T.g
  b := T.b
  lim := T.nolimit
  bl := T.builtins
  no := by rw [kp_keys]; decide
  tab := by
    obtain ⟨d, hd, e⟩ := cov_mem
    obtain ⟨a, o, fd, c, P, h1, h2, h3, h4, h5, h6⟩ := T.tab d hd
    have ha : mg (Str.ofString "covariance") = some (.ref 84) := mg_of KX T.g (by with_unfolding_all rfl)
    rw [e, ha] at h1
    cases h1
    have hf : ∃ o fd, (Kp w).lookup 84 = some o ∧ o.data = .func fd ∧ fd.code = .ref 83 := ⟨_, _, by with_unfolding_all rfl, rfl, rfl⟩
    obtain ⟨o', fd', k1, k2, k3⟩ := hf
    have := KX _ _ k1
    rw [h2] at this
    cases this
    rw [h3] at k2
    cases k2
    rw [h4] at k3
    cases k3
    have hc : ∃ oc vs, (Kp w).lookup 83 = some oc ∧ oc.data = .fields vs ∧ vs[11]? = some (.ref 79) := ⟨_, _, by with_unfolding_all rfl, rfl, rfl⟩
    obtain ⟨oc, vs, e1, e2, e3⟩ := hc
    obtain ⟨⟨oc', vs', f1, f2, f3, f4⟩, f5⟩ := h6
    have := KX _ _ e1
    rw [f1] at this
    cases this
    rw [f3] at e2
    cases e2
    rw [f4] at e3
    cases e3
    exact ⟨_, f5, #[], rfl, trivial, rfl⟩
  bm := T.bmain
end Mine
end
/-! the end -/
open PySem PySem.Calls PySem.W PyProof.Rows
namespace Mine
theorem oldK_of {w : World} {s : Shared} {h' : Heap} {mg mb : Str → Option Value} (G : Gx w s.heap mg mb) (B : Bk s.heap s.heap) (k : KeepX (fun b => b = 79) s.heap h') (x : ExtT s.heap h') : OldK s.heap h' := by
  obtain ⟨ps, _, ht⟩ := codeOf G B
  obtain ⟨more, e'⟩ := x ps ht.2
  refine ⟨fun b o e => ?_, fun b o e => ?_⟩
  · by_cases hb : b = 79
    · subst hb
      have e₀ : o = { cls := .none, data := .fields ps } := Option.some.inj (e.symm.trans ht.2)
      subst e₀
      exact .inr (.inl ⟨ht.isCodeTable, rfl, ps, more, rfl, e'⟩)
    · exact .inl (k b o hb e)
  · by_cases hb : b = 79
    · exact ⟨_, by rw [hb]; exact e'⟩
    · exact ⟨o, k b o hb e⟩
theorem bk_refl {w : World} {h : Heap} {mg mb : Str → Option Value} (G : Gx w h mg mb) : Bk h h := ⟨fun _ _ _ e => e, G.tab⟩
theorem rm_top : Rm callerA 8 := ⟨rfl, by decide, by decide⟩
theorem law_wp {w : World} {s : Shared} {loose : List Str} {mean : ExcName → Option Value} {mg mb : Str → Option Value} {fa a : Addr} {vs : List Value} {zs : List Int} {Q : Value → Shared → Prop} {E : Value → Shared → Prop}
    (KX : (Kp w).In s.heap) (T : Top hd16.view_39 loose mean mg mb s.heap) (hf : mg (Str.ofString "law") = some (.ref fa)) (hL : s.heap.IsList a vs.toArray) (hI : IntsAre vs zs) (hlen : zs.length ≤ 63)
    (hq : ∀ s', OldK s.heap s'.heap → s'.os = s.os → ((∀ y ∈ s.gens, y.bare = true) → ∀ y ∈ s'.gens, y.bare = true) → Q (.bool true) s') :
    wpAny (model Prg w) callerA (call (.ref fa) [.ref a]) Q E s := by
  have G := gx_of KX T
  have B := bk_refl G
  have e : mg (Str.ofString "law") = some (.ref 127) := mg_of KX T.g (by with_unfolding_all rfl)
  rw [hf] at e
  cases e
  exact law_spec G B rm_top hL (f2_ints hI) hlen (good_words zs) fun s' k x o g => hq s' (oldK_of G B k x) o g
end Mine
set_option maxHeartbeats 8000000
theorem PySem.Challenge.cw_sw0016_01_holds : PySem.Challenge.rw_sw0016_01.Holds :=
  Mine.hd16 (by
    intro w s₀ s₁ mg mb G Y fa o pm cd doc dV kV ho hd hcd hD hmg hg args vals as hpre hlay hrd hwl hlo
    have KX := km_in_of Y
    km_tabs Y
    have X := (Ground.X G).1
    have V := (Ground.X G).2
    refine Ground.open G ?_
    intro T B D TE TW
    wrow_args hpre hlay hrd hwl hlo
    refine Mine.law_wp KX T hmg (by assumption) (by assumption) (by omega) fun s' hk ho hb => ?_
    refine ⟨.inl ⟨_, _, [], rfl, fun _ => rfl, ReadsW.bool true, ?_, fun _ => ⟨List.nodup_nil, fun _ hm => (nomatch hm)⟩⟩, hk, ho, ?_⟩
    · first | rfl | wrow_post
    · intro y hy
      refine hb ?_ y hy
      rw [hg]
      intro y hy
      simp at hy)

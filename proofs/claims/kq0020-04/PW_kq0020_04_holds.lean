import PyProof.Rows.All
import Wide.All
import OpenK.AllK
import Wide.FinOn
import KE.KDictOf
import KE.KParD
import Lean
import PySem.Challenge.RW_kq0020_04
open PySem PySem.W PySem.Calls PyProof.Rows
set_option maxRecDepth 100000
set_option autoImplicit false
set_option Elab.async false
set_option linter.all false
set_option compiler.extract_closed false
set_option maxHeartbeats 8000000
namespace Mine

/-- values -/
inductive V where
  | none
  | bool (b : Bool)
  | int (i : Int)
  | str (s : List Nat)
  | tup (vs : List V)
  | ref (a : Addr)
  | stat (v : Value)

noncomputable def tx (s : List Nat) : PySem.Str := ⟨s.toArray⟩

mutual
inductive VR (h : Heap) : V → Value → Prop
  | none : VR h .none .none
  | bool {b} : VR h (.bool b) (.bool b)
  | int {i t} : VR h (.int i) (.int i t)
  | str {s t} : VR h (.str s) (.str (tx s) t)
  | ref {a} : VR h (.ref a) (.ref a)
  | stat {v} : VR h (.stat v) v
  | tup {a vs cvs} : h.IsTuple a (List.toArray cvs) → VRs h vs cvs → VR h (.tup vs) (.ref a)
inductive VRs (h : Heap) : List V → List Value → Prop
  | nil : VRs h [] []
  | cons {v cv vs cvs} : VR h v cv → VRs h vs cvs → VRs h (v :: vs) (cv :: cvs)
end

/-- tuples stay -/
noncomputable def Tup (h h' : Heap) : Prop := ∀ a items, h.IsTuple a items → h'.IsTuple a items
theorem Tup.refl (h : Heap) : Tup h h := fun _ _ x => x
theorem Tup.trans {h₁ h₂ h₃ : Heap} (x : Tup h₁ h₂) (y : Tup h₂ h₃) : Tup h₁ h₃ := fun a i z => y a i (x a i z)
theorem Tup.ext {h h' : Heap} (x : ∀ b o, h.get? b = some o → h'.get? b = some o) : Tup h h' :=
  fun a _ ⟨o, ho, r⟩ => ⟨o, x a o ho, r⟩

mutual
theorem VR.mono {h h' : Heap} (x : Tup h h') : ∀ {v cv}, VR h v cv → VR h' v cv
  | _, _, .none => .none
  | _, _, .bool => .bool
  | _, _, .int => .int
  | _, _, .str => .str
  | _, _, .ref => .ref
  | _, _, .stat => .stat
  | _, _, .tup a b => .tup (x _ _ a) (VRs.mono x b)
theorem VRs.mono {h h' : Heap} (x : Tup h h') : ∀ {v cv}, VRs h v cv → VRs h' v cv
  | _, _, .nil => .nil
  | _, _, .cons a b => .cons (VR.mono x a) (VRs.mono x b)
end

theorem VRs.length {h : Heap} : ∀ {vs : List V} {cvs : List Value}, VRs h vs cvs → vs.length = cvs.length
  | _, _, .nil => rfl
  | _, _, .cons _ b => by simp [b.length]
theorem VRs.get {h : Heap} : ∀ {vs : List V} {cvs : List Value} {i : Nat} {v : V}, VRs h vs cvs → vs[i]? = some v → ∃ cv, cvs[i]? = some cv ∧ VR h v cv
  | _, _, 0, _, .cons a _, e => by simp at e; subst e; exact ⟨_, rfl, a⟩
  | _, _, i + 1, _, .cons _ b, e => by simpa using b.get (i := i) (by simpa using e)
theorem VRs.append {h : Heap} : ∀ {vs ws : List V} {cvs cws : List Value}, VRs h vs cvs → VRs h ws cws → VRs h (vs ++ ws) (cvs ++ cws)
  | _, _, _, _, .nil, y => y
  | _, _, _, _, .cons a b, y => .cons a (b.append y)
theorem VRs.drop {h : Heap} : ∀ {vs : List V} {cvs : List Value} (i : Nat), VRs h vs cvs → VRs h (vs.drop i) (cvs.drop i)
  | _, _, 0, x => x
  | _, _, _ + 1, .nil => .nil
  | _, _, i + 1, .cons _ b => b.drop i
theorem VRs.take {h : Heap} : ∀ {vs : List V} {cvs : List Value} (i : Nat), VRs h vs cvs → VRs h (vs.take i) (cvs.take i)
  | _, _, 0, _ => .nil
  | _, _, _ + 1, .nil => .nil
  | _, _, i + 1, .cons a b => .cons a (b.take i)

/-- locals: the names of the scope, place by place -/
noncomputable abbrev Loc := List (Option V)
noncomputable def LocR (h : Heap) (N : List PySem.Str) (ρ : Loc) (m : PySem.Str → Option Value) : Prop :=
  ∀ (i : Nat) (x : PySem.Str) (v : V), N[i]? = some x → ρ[i]? = some (some v) → ∃ cv, m x = some cv ∧ VR h v cv
theorem LocR.mono {h h' : Heap} {N : List PySem.Str} {ρ : Loc} {m : PySem.Str → Option Value} (x : Tup h h') (y : LocR h N ρ m) : LocR h' N ρ m := fun i a v p q =>
  let ⟨cv, e, z⟩ := y i a v p q; ⟨cv, e, z.mono x⟩
theorem nodup_inj {α : Type} : ∀ {l : List α}, l.Nodup → ∀ {i j : Nat} {x : α}, l[i]? = some x → l[j]? = some x → i = j
  | [], _, i, j, x, p, _ => by simp at p
  | a :: l, h, 0, 0, _, _, _ => rfl
  | a :: l, h, 0, j + 1, x, p, q => by
    simp at p q; subst p
    exact absurd (List.mem_of_getElem? q) (List.nodup_cons.mp h).1
  | a :: l, h, i + 1, 0, x, p, q => by
    simp at p q; subst q
    exact absurd (List.mem_of_getElem? p) (List.nodup_cons.mp h).1
  | a :: l, h, i + 1, j + 1, x, p, q => by
    exact congrArg (· + 1) (nodup_inj (i := i) (j := j) (x := x) (List.nodup_cons.mp h).2 (by simpa using p) (by simpa using q))
theorem LocR.put {h : Heap} {N : List PySem.Str} {ρ : Loc} {m : PySem.Str → Option Value} {i : Nat} {x : PySem.Str} {v : V} {cv : Value} (y : LocR h N ρ m) (hn : N.Nodup) (hi : N[i]? = some x) (hv : VR h v cv) :
    LocR h N (ρ.set i (some v)) (fun z => if z = x then some cv else m z) := by
  intro j z u p q
  by_cases e : j = i
  · subst e
    rw [hi] at p; cases p
    rw [List.getElem?_set] at q
    simp only [if_true] at q
    split at q
    · cases q; exact ⟨cv, by simp, hv⟩
    · cases q
  · rw [List.getElem?_set, if_neg (fun c => e c.symm)] at q
    obtain ⟨cu, hm, hr⟩ := y j z u p q
    refine ⟨cu, ?_, hr⟩
    have : z ≠ x := by
      rintro rfl
      exact e (nodup_inj hn p hi)
    simp [this, hm]

/-- objects -/
inductive AO where
  | list (vs : List V)
  | deque (vs : List V)
  | inst (C d : Addr)
  | dict (es : List (PySem.Str × V))
  | cell (v : Option V)
  | frame (N : List PySem.Str) (ρ : Loc)
  | any (P : Obj → Prop)

noncomputable abbrev AH := Addr → Option AO

inductive ERs (h : Heap) : List (PySem.Str × V) → List DictEntry → Prop
  | nil : ERs h [] []
  | cons {x v t hs cv es ces} : VR h v cv → ERs h es ces → ERs h ((x, v) :: es) (⟨hs, .str x t, cv⟩ :: ces)
theorem ERs.mono {h h' : Heap} (x : Tup h h') : ∀ {es ces}, ERs h es ces → ERs h' es ces
  | _, _, .nil => .nil
  | _, _, .cons a b => .cons (a.mono x) (b.mono x)

noncomputable def ObjAt (h : Heap) (a : Addr) : AO → Prop
  | .list vs => ∃ cvs n, h.get? a = some ⟨.type "list", none, .seq (List.toArray cvs) n, #[]⟩ ∧ VRs h vs cvs
  | .deque vs => ∃ cvs k, h.get? a = some ⟨.type "collections.deque", none, .fields (List.toArray (.none :: rawInt k :: cvs)), #[]⟩ ∧ VRs h vs cvs
  | .inst C d => h.get? a = some ⟨.ref C, some d, .plain, #[]⟩
  | .dict es => ∃ ces n, h.get? a = some ⟨.type "dict", none, .dict (List.toArray ces) n, #[]⟩ ∧ ERs h es ces
  | .cell v => ∃ o cv, h.get? a = some o ∧ o.cls = .type "cell" ∧ o.data = .cell cv ∧ (∀ u, v = some u → ∃ cu, cv = some cu ∧ VR h u cu)
  | .frame N ρ => ∃ m, h.Ns a m ∧ LocR h N ρ m
  | .any P => ∃ o, h.get? a = some o ∧ P o ∧ o.cls ≠ .type "tuple"

theorem ObjAt.mono {h h' : Heap} {a : Addr} {o : AO} (x : Tup h h') (e : h'.get? a = h.get? a) (y : ObjAt h a o) : ObjAt h' a o := by
  cases o with
  | list vs => obtain ⟨c, n, g, r⟩ := y; exact ⟨c, n, e.trans g, r.mono x⟩
  | deque vs => obtain ⟨c, n, g, r⟩ := y; exact ⟨c, n, e.trans g, r.mono x⟩
  | inst C d => exact e.trans y
  | dict es => obtain ⟨c, n, g, r⟩ := y; exact ⟨c, n, e.trans g, r.mono x⟩
  | cell v => obtain ⟨ob, cv, g, hc, hd, r⟩ := y; exact ⟨ob, cv, e.trans g, hc, hd, fun u hu => let ⟨cu, p, q⟩ := r u hu; ⟨cu, p, q.mono x⟩⟩
  | frame N ρ => obtain ⟨m, ⟨ob, es, ep, g, r⟩, z⟩ := y; exact ⟨m, ⟨ob, es, ep, e.trans g, r⟩, z.mono x⟩
  | any P => obtain ⟨ob, g, r⟩ := y; exact ⟨ob, e.trans g, r⟩

theorem ObjAt.get {h : Heap} {a : Addr} {o : AO} (y : ObjAt h a o) : ∃ ob, h.get? a = some ob ∧ ¬ (ob.cls = .type "tuple" ∧ ∃ i n, ob.data = .seq i n) := by
  cases o with
  | list vs => obtain ⟨c, n, g, _⟩ := y; exact ⟨_, g, fun z => absurd z.1 (by simp)⟩
  | deque vs => obtain ⟨c, n, g, _⟩ := y; exact ⟨_, g, fun z => absurd z.1 (by simp)⟩
  | inst C d => exact ⟨_, y, fun z => absurd z.1 (by simp)⟩
  | dict es => obtain ⟨c, n, g, _⟩ := y; exact ⟨_, g, fun z => absurd z.1 (by simp)⟩
  | cell v => obtain ⟨ob, cv, g, hc, hd, _⟩ := y; exact ⟨ob, g, fun ⟨_, i, n, q⟩ => by rw [hd] at q; cases q⟩
  | frame N ρ => obtain ⟨m, ⟨ob, es, ep, g, hd, _⟩, _⟩ := y; exact ⟨ob, g, fun ⟨_, i, n, q⟩ => by rw [hd] at q; cases q⟩
  | any P => obtain ⟨ob, g, _, r⟩ := y; exact ⟨ob, g, fun z => r z.1⟩

theorem ObjAt.tup {h h' : Heap} {a : Addr} {o : AO} (y : ObjAt h a o) (s : Heap.SameBut a h h') : Tup h h' := by
  rintro b items ⟨ob, hob, hc, n, hd⟩
  refine ⟨ob, ?_, hc, n, hd⟩
  have : b ≠ a := by
    rintro rfl
    obtain ⟨ob', hob', hn⟩ := y.get
    rw [hob] at hob'; cases hob'
    exact hn ⟨hc, items, n, hd⟩
  exact (s.2 b this).trans hob

/-- the fixed part -/
structure Cx where
  prog : Program
  w : World
  K : Frag
  base : Heap
  os : OsState
  mg : PySem.Str → Option Value
  mb : PySem.Str → Option Value
  X : K.In base
  g : base.Ns mainGlobals mg
  b : base.Ns builtinsNs mb
  builtins : ∀ x : PySem.Str, x ≠ "__name__" → mb x = bootBuiltins x
  nolimit : base.NoLimit

noncomputable def AH.set (τ : AH) (a : Addr) (o : AO) : AH := fun b => if b = a then some o else τ b
theorem AH.set_self (τ : AH) (a : Addr) (o : AO) : (τ.set a o) a = some o := by simp [AH.set]
theorem AH.set_ne (τ : AH) {a b : Addr} (o : AO) (h : b ≠ a) : (τ.set a o) b = τ b := by simp [AH.set, h]

structure Sat (C : Cx) (τ : AH) (s : Shared) : Prop where
  keep : ∀ b o, C.base.get? b = some o → s.heap.get? b = some o
  obj : ∀ a o, τ a = some o → ObjAt s.heap a o ∧ C.base.get? a = none
  gens : s.gens = #[]
  os : s.os = C.os

section
variable {C : Cx} {τ : AH} {s : Shared}
theorem Sat.toks (x : Sat C τ s) (t : Nat) : Sat C τ { s with toks := t } := ⟨x.keep, x.obj, x.gens, x.os⟩
theorem Sat.weaken {τ' : AH} (x : Sat C τ s) (h : ∀ a o, τ' a = some o → τ a = some o) : Sat C τ' s :=
  ⟨x.keep, fun a o e => x.obj a o (h a o e), x.gens, x.os⟩
theorem Sat.ext {h' : Heap} (x : Sat C τ s) (h : ∀ b o, s.heap.get? b = some o → h'.get? b = some o) (t : Nat) : Sat C τ { s with heap := h', toks := t } := by
  refine ⟨fun b o e => h b o (x.keep b o e), fun a o e => ⟨?_, (x.obj a o e).2⟩, x.gens, x.os⟩
  obtain ⟨ob, g, _⟩ := (x.obj a o e).1.get
  exact (x.obj a o e).1.mono (Tup.ext h) ((h a ob g).trans g.symm)
theorem Sat.upd {a : Addr} {o o' : AO} {h' : Heap} (x : Sat C τ s) (ha : τ a = some o) (hs : Heap.SameBut a s.heap h') (ho : ObjAt h' a o') (t : Nat) :
    Sat C (τ.set a o') { s with heap := h', toks := t } := by
  have tp := (x.obj a o ha).1.tup hs
  have nb := (x.obj a o ha).2
  refine ⟨fun b ob e => (hs.2 b (fun q => by rw [q, nb] at e; cases e)).trans (x.keep b ob e), fun b ob e => ?_, x.gens, x.os⟩
  unfold AH.set at e
  split at e
  · rename_i q; subst q; cases e; exact ⟨ho, nb⟩
  · rename_i q
    exact ⟨(x.obj b ob e).1.mono tp (hs.2 b q), (x.obj b ob e).2⟩
theorem Sat.fresh (x : Sat C τ s) : τ s.heap.objs.size = none := by
  cases e : τ s.heap.objs.size with
  | none => rfl
  | some o =>
    obtain ⟨ob, g, _⟩ := (x.obj _ o e).1.get
    exact absurd (Heap.lt_size g) (Nat.lt_irrefl _)
theorem Sat.base_lt (x : Sat C τ s) : C.base.get? s.heap.objs.size = none := by
  cases e : C.base.get? s.heap.objs.size with
  | none => rfl
  | some o => exact absurd (Heap.lt_size (x.keep _ _ e)) (Nat.lt_irrefl _)
theorem Sat.new {o : AO} {ob : Obj} {h' : Heap} (x : Sat C τ s) (hk : ∀ b o, s.heap.get? b = some o → h'.get? b = some o) (ho : ObjAt h' s.heap.objs.size o) (t : Nat) :
    Sat C (τ.set s.heap.objs.size o) { s with heap := h', toks := t } := by
  refine ⟨fun b ob e => hk b ob (x.keep b ob e), fun b _ob e => ?_, x.gens, x.os⟩
  unfold AH.set at e
  split at e
  · rename_i q; subst q; cases e; exact ⟨ho, x.base_lt⟩
  · exact ((x.ext hk t).obj b _ e)
end
end Mine

namespace Mine

theorem wp_if_neg {α : Type} {M : Model} {A : Around} {E : Value → Shared → Prop} {s : Shared} {Q : α → Shared → Prop} {c : Prop} [Decidable c] {t e : Sem α} (h : ¬ c) (k : wpAny M A e Q E s) : wpAny M A (if c then t else e) Q E s := by rw [if_neg h]; exact k
theorem wp_if_pos {α : Type} {M : Model} {A : Around} {E : Value → Shared → Prop} {s : Shared} {Q : α → Shared → Prop} {c : Prop} [Decidable c] {t e : Sem α} (h : c) (k : wpAny M A t Q E s) : wpAny M A (if c then t else e) Q E s := by rw [if_pos h]; exact k
structure Fx where
  A : Around
  env : Env
  outer : List Env

noncomputable abbrev Fx.N (f : Fx) : List PySem.Str := f.env.scope.names.map (·.1)
noncomputable abbrev Fx.L (f : Fx) : Addr := f.env.locals

structure Fx.Ok (d : Nat) (ns : List (PySem.Str × NameKind)) (f : Fx) : Prop where
  names : f.env.scope.names = ns
  kind : f.env.scope.kind = .function
  globals : f.env.globals = mainGlobals
  builtins : f.env.builtins = builtinsNs
  frame : f.env.frame = some f.env.locals
  nd : f.N.Nodup
  dbg : f.N.all (fun x => !(x == ("__debug__" : PySem.Str))) = true
  depth : f.A.depth + d < recursionLimit
  units : f.A.units + 4 * d + 16 < cLine
  frames : f.A.frames = some (f.env :: f.outer)

structure Dis (L : Addr) (outer : List Env) (F σ : AH) : Prop where
  l1 : σ L = none
  l2 : F L = none
  l3 : ∀ a o, F a = some o → σ a = none
  fr : ∀ e ∈ outer, e.scope.kind ≠ .module ∧ ∃ L' N ρ, e.frame = some L' ∧ F L' = some (.frame N ρ)

noncomputable def tot (L : Addr) (N : List PySem.Str) (ρ : Loc) (F σ : AH) : AH := fun a => if a = L then some (.frame N ρ) else match σ a with | some o => some o | none => F a

structure St (C : Cx) (f : Fx) (ρ : Loc) (F σ : AH) (s : Shared) : Prop where
  dis : Dis f.L f.outer F σ
  sat : Sat C (tot f.L f.N ρ F σ) s

section
variable {C : Cx} {f : Fx} {ρ : Loc} {F σ : AH} {s : Shared}
theorem tot_L {L : Addr} {N : List PySem.Str} : tot L N ρ F σ L = some (.frame N ρ) := by simp [tot]
theorem St.at (x : St C f ρ F σ s) {a : Addr} {o : AO} (h : σ a = some o) : tot f.L f.N ρ F σ a = some o := by
  have : a ≠ f.L := fun e => by rw [e, x.dis.l1] at h; cases h
  simp [tot, this, h]
theorem St.atF (x : St C f ρ F σ s) {a : Addr} {o : AO} (h : F a = some o) : tot f.L f.N ρ F σ a = some o := by
  have : a ≠ f.L := fun e => by rw [e, x.dis.l2] at h; cases h
  simp [tot, this, h, x.dis.l3 a o h]
theorem St.obj (x : St C f ρ F σ s) {a : Addr} {o : AO} (h : σ a = some o) : ObjAt s.heap a o := (x.sat.obj a o (x.at h)).1
theorem St.locals (x : St C f ρ F σ s) : ∃ m, s.heap.Ns f.env.locals m ∧ LocR s.heap f.N ρ m := (x.sat.obj _ _ tot_L).1
theorem St.toks (x : St C f ρ F σ s) (t : Nat) : St C f ρ F σ { s with toks := t } := ⟨x.dis, x.sat.toks t⟩
theorem St.fresh (x : St C f ρ F σ s) : σ s.heap.objs.size = none ∧ F s.heap.objs.size = none ∧ s.heap.objs.size ≠ f.L := by
  have e := x.sat.fresh
  unfold tot at e
  split at e
  · cases e
  · rename_i h
    cases q : σ s.heap.objs.size with
    | none => rw [q] at e; exact ⟨rfl, e, h⟩
    | some o => rw [q] at e; cases e
theorem tot_set {L : Addr} {N : List PySem.Str} {a : Addr} {o : AO} (h : a ≠ L) : tot L N ρ F (σ.set a o) = (tot L N ρ F σ).set a o := by
  funext b
  unfold tot AH.set
  by_cases e : b = L
  · have : b ≠ a := fun q => h (q.symm.trans e)
    simp [e, this, Ne.symm h]
  · by_cases q : b = a
    · simp [q, h]
    · simp [e, q]
theorem tot_loc {L : Addr} {N : List PySem.Str} {ρ' : Loc} : tot L N ρ' F σ = (tot L N ρ F σ).set L (.frame N ρ') := by
  funext b
  unfold tot AH.set
  by_cases e : b = L <;> simp [e]
theorem Dis.set {L : Addr} {outer : List Env} {a : Addr} {o : AO} (x : Dis L outer F σ) (h1 : a ≠ L) (h2 : F a = none) : Dis L outer F (σ.set a o) := by
  refine ⟨by rw [AH.set_ne _ _ (Ne.symm h1)]; exact x.l1, x.l2, fun b ob e => ?_, x.fr⟩
  have : b ≠ a := fun q => by rw [q, h2] at e; cases e
  rw [AH.set_ne _ _ this]; exact x.l3 b ob e
theorem St.notL (x : St C f ρ F σ s) {a : Addr} {o : AO} (h : σ a = some o) : a ≠ f.L := fun e => by rw [e, x.dis.l1] at h; cases h
theorem St.notF (x : St C f ρ F σ s) {a : Addr} {o : AO} (h : σ a = some o) : F a = none := by
  cases e : F a with
  | none => rfl
  | some o' => rw [x.dis.l3 a o' e] at h; cases h
theorem St.upd (x : St C f ρ F σ s) {a : Addr} {o o' : AO} {h' : Heap} (h : σ a = some o) (hs : Heap.SameBut a s.heap h') (ho : ObjAt h' a o') (t : Nat) :
    St C f ρ F (σ.set a o') { s with heap := h', toks := t } ∧ Tup s.heap h' := by
  refine ⟨⟨x.dis.set (x.notL h) (x.notF h), ?_⟩, (x.obj h).tup hs⟩
  rw [tot_set (x.notL h)]
  exact x.sat.upd (x.at h) hs ho t
theorem St.new (x : St C f ρ F σ s) {o : AO} {h' : Heap} (hk : ∀ b o, s.heap.get? b = some o → h'.get? b = some o) (ho : ObjAt h' s.heap.objs.size o) (t : Nat) :
    St C f ρ F (σ.set s.heap.objs.size o) { s with heap := h', toks := t } ∧ Tup s.heap h' := by
  obtain ⟨f1, f2, f3⟩ := x.fresh
  refine ⟨⟨x.dis.set f3 f2, ?_⟩, Tup.ext hk⟩
  rw [tot_set f3]
  exact x.sat.new (ob := default) hk ho t
theorem St.ext (x : St C f ρ F σ s) {h' : Heap} (hk : ∀ b o, s.heap.get? b = some o → h'.get? b = some o) (t : Nat) :
    St C f ρ F σ { s with heap := h', toks := t } ∧ Tup s.heap h' := ⟨⟨x.dis, x.sat.ext hk t⟩, Tup.ext hk⟩
theorem St.store (x : St C f ρ F σ s) {i : Nat} {n : PySem.Str} {v : V} {cv : Value} {h' : Heap} {m : PySem.Str → Option Value} (hn : f.N.Nodup) (hi : f.N[i]? = some n) (hv : VR s.heap v cv)
    (hm : s.heap.Ns f.env.locals m) (hr : LocR s.heap f.N ρ m) (h : h'.Ns f.env.locals (fun y => if y = n then some cv else m y)) (hs : Heap.SameBut f.env.locals s.heap h') (t : Nat) :
    St C f (ρ.set i (some v)) F σ { s with heap := h', toks := t } ∧ Tup s.heap h' := by
  have tp : Tup s.heap h' := (x.sat.obj _ _ tot_L).1.tup hs
  refine ⟨⟨x.dis, ?_⟩, tp⟩
  rw [tot_loc (ρ := ρ)]
  exact x.sat.upd tot_L hs (show ObjAt h' f.L (.frame f.N (ρ.set i (some v))) from ⟨_, h, (hr.put hn hi hv).mono tp⟩) t
theorem totF_set {L : Addr} {N : List PySem.Str} {a : Addr} {o : AO} (h : a ≠ L) (hs : σ a = none) : tot L N ρ (F.set a o) σ = (tot L N ρ F σ).set a o := by
  funext b
  unfold tot AH.set
  by_cases e : b = L
  · have : b ≠ a := fun q => h (q.symm.trans e)
    simp [e, this, Ne.symm h]
  · by_cases q : b = a
    · subst q; simp [h, hs]
    · simp [e, q]
theorem Dis.setF {L : Addr} {outer : List Env} {a : Addr} {o : AO} (x : Dis L outer F σ) (h1 : a ≠ L) (h2 : σ a = none)
    (h3 : ∀ N ρ, F a = some (.frame N ρ) → ∃ N' ρ', o = .frame N' ρ') : Dis L outer (F.set a o) σ := by
  refine ⟨x.l1, by rw [AH.set_ne _ _ (Ne.symm h1)]; exact x.l2, fun b ob e => ?_, fun e he => ?_⟩
  · by_cases q : b = a
    · subst q; exact h2
    · rw [AH.set_ne _ _ q] at e; exact x.l3 b ob e
  · obtain ⟨k, L', N, ρ, e1, e2⟩ := x.fr e he
    by_cases q : L' = a
    · subst q
      obtain ⟨N', ρ', rfl⟩ := h3 N ρ e2
      exact ⟨k, L', N', ρ', e1, AH.set_self ..⟩
    · exact ⟨k, L', N, ρ, e1, by rw [AH.set_ne _ _ q]; exact e2⟩
theorem St.newF (x : St C f ρ F σ s) {o : AO} {h' : Heap} (hk : ∀ b o, s.heap.get? b = some o → h'.get? b = some o) (ho : ObjAt h' s.heap.objs.size o) (t : Nat) :
    St C f ρ (F.set s.heap.objs.size o) σ { s with heap := h', toks := t } := by
  obtain ⟨f1, f2, f3⟩ := x.fresh
  refine ⟨x.dis.setF f3 f1 (fun N ρ e => by rw [f2] at e; cases e), ?_⟩
  rw [totF_set f3 f1]
  exact x.sat.new (ob := default) hk ho t
theorem St.updF (x : St C f ρ F σ s) {a : Addr} {P P' : Obj → Prop} {h' : Heap} (h : F a = some (.any P)) (hs : Heap.SameBut a s.heap h') (ho : ObjAt h' a (.any P')) (t : Nat) :
    St C f ρ (F.set a (.any P')) σ { s with heap := h', toks := t } ∧ Tup s.heap h' := by
  have h1 : a ≠ f.L := fun e => by rw [e, x.dis.l2] at h; cases h
  have h2 : σ a = none := x.dis.l3 a _ h
  refine ⟨⟨x.dis.setF h1 h2 (fun N ρ e => by rw [h] at e; cases e), ?_⟩, (x.sat.obj a _ (x.atF h)).1.tup hs⟩
  rw [totF_set h1 h2]
  exact x.sat.upd (x.atF h) hs ho t
theorem St.dropF (x : St C f ρ F σ s) {F₀ : AH} {a : Addr} {P : Obj → Prop} {h' : Heap} (hF : F = F₀.set a (.any P)) (h0 : F₀ a = none) (hs : Heap.ExtBut a s.heap h') (t : Nat) :
    St C f ρ F₀ σ { s with heap := h', toks := t } ∧ Tup s.heap h' := by
  subst hF
  have hFa : (F₀.set a (.any P)) a = some (.any P) := AH.set_self ..
  have h1 : a ≠ f.L := fun e => by have := x.dis.l2; rw [← e, hFa] at this; cases this
  have h2 : σ a = none := x.dis.l3 a _ hFa
  have tp : Tup s.heap h' := by
    rintro b items ⟨ob, hob, hc, n, hd⟩
    have : b ≠ a := by
      rintro rfl
      obtain ⟨ob', hob', _, hn⟩ := (x.sat.obj b _ (x.atF hFa)).1
      rw [hob] at hob'; cases hob'
      exact hn hc
    exact ⟨ob, hs b ob this hob, hc, n, hd⟩
  have nb : C.base.get? a = none := (x.sat.obj a _ (x.atF hFa)).2
  have keep : ∀ b o, b ≠ a → s.heap.get? b = some o → h'.get? b = some o := fun b o q e => hs b o q e
  refine ⟨⟨⟨x.dis.l1, ?_, fun b o e => ?_, fun e he => ?_⟩, ⟨fun b o e => keep b o (fun q => by rw [q, nb] at e; cases e) (x.sat.keep b o e), fun b o e => ?_, x.sat.gens, x.sat.os⟩⟩, tp⟩
  · have := x.dis.l2; rw [AH.set_ne _ _ (Ne.symm h1)] at this; exact this
  · by_cases q : b = a
    · subst q; exact h2
    · exact x.dis.l3 b o (by rw [AH.set_ne _ _ q]; exact e)
  · obtain ⟨k, L', N, ρ', e1, e2⟩ := x.dis.fr e he
    by_cases q : L' = a
    · subst q; rw [hFa] at e2; cases e2
    · exact ⟨k, L', N, ρ', e1, by rw [AH.set_ne _ _ q] at e2; exact e2⟩
  · have q : b ≠ a := by
      rintro rfl
      unfold tot at e
      rw [if_neg h1, h2] at e
      rw [h0] at e; cases e
    have e' : tot f.L f.N ρ (F₀.set a (.any P)) σ b = some o := by
      rw [totF_set h1 h2, AH.set_ne _ _ q]; exact e
    have y := x.sat.obj b o e'
    obtain ⟨ob, g, _⟩ := y.1.get
    exact ⟨y.1.mono tp ((keep b ob q g).trans g.symm), y.2⟩
theorem St.weaken (x : St C f ρ F σ s) {σ' : AH} (h : ∀ a o, σ' a = some o → σ a = some o) : St C f ρ F σ' s := by
  have hn : ∀ a, σ a = none → σ' a = none := fun a e => by
    cases q : σ' a with
    | none => rfl
    | some o => rw [h a o q] at e; cases e
  refine ⟨⟨hn _ x.dis.l1, x.dis.l2, fun a o e => hn a (x.dis.l3 a o e), x.dis.fr⟩, x.sat.weaken fun a o e => ?_⟩
  unfold tot at e ⊢
  split
  · rename_i q; rw [if_pos q] at e; exact e
  · rename_i q
    rw [if_neg q] at e
    cases w : σ' a with
    | some o' => rw [w] at e; cases e; rw [h a o w]
    | none =>
      rw [w] at e
      have : σ a = none := x.dis.l3 a o e
      rw [this]; exact e
end

noncomputable abbrev XT := AH → Value → Shared → Prop
noncomputable abbrev Cx.M (C : Cx) : Model := model C.prog C.w

/-- a value is got -/
inductive EvP (C : Cx) (f : Fx) (ρ : Loc) (F : AH) (h : Heap) (Q : V → AH → Prop) (cv : Value) (s' : Shared) : Prop
  | mk (v : V) (σ' : AH) (a : St C f ρ F σ' s') (b : VR s'.heap v cv) (c : Tup h s'.heap) (d : Q v σ') : EvP C f ρ F h Q cv s'
inductive EtP (C : Cx) (f : Fx) (ρ : Loc) (F : AH) (h : Heap) (Q : Bool → AH → Prop) (b : Bool) (s' : Shared) : Prop
  | mk (σ' : AH) (a : St C f ρ F σ' s') (c : Tup h s'.heap) (d : Q b σ') : EtP C f ρ F h Q b s'
inductive ElP (C : Cx) (f : Fx) (ρ : Loc) (F : AH) (h : Heap) (Q : List V → AH → Prop) (cvs : List Value) (s' : Shared) : Prop
  | mk (vs : List V) (σ' : AH) (a : St C f ρ F σ' s') (b : VRs s'.heap vs cvs) (c : Tup h s'.heap) (d : Q vs σ') : ElP C f ρ F h Q cvs s'
inductive EuP (C : Cx) (f : Fx) (ρ : Loc) (F : AH) (h : Heap) (Q : AH → Prop) (u : Unit) (s' : Shared) : Prop
  | mk (σ' : AH) (a : St C f ρ F σ' s') (c : Tup h s'.heap) (d : Q σ') : EuP C f ρ F h Q u s'
inductive AsP (C : Cx) (f : Fx) (F : AH) (h : Heap) (Q : Loc → AH → Prop) (u : Unit) (s' : Shared) : Prop
  | mk (ρ' : Loc) (σ' : AH) (a : St C f ρ' F σ' s') (c : Tup h s'.heap) (d : Q ρ' σ') : AsP C f F h Q u s'
noncomputable def Ev (C : Cx) (f : Fx) (X : XT) (ρ : Loc) (t : Sem Value) (σ : AH) (Q : V → AH → Prop) : Prop :=
  ∀ F s, St C f ρ F σ s → wpAny C.M f.A t (EvP C f ρ F s.heap Q) (X F) s
noncomputable def Et (C : Cx) (f : Fx) (X : XT) (ρ : Loc) (t : Sem Bool) (σ : AH) (Q : Bool → AH → Prop) : Prop :=
  ∀ F s, St C f ρ F σ s → wpAny C.M f.A t (EtP C f ρ F s.heap Q) (X F) s
noncomputable def El (C : Cx) (f : Fx) (X : XT) (ρ : Loc) (t : Sem (List Value)) (σ : AH) (Q : List V → AH → Prop) : Prop :=
  ∀ F s, St C f ρ F σ s → wpAny C.M f.A t (ElP C f ρ F s.heap Q) (X F) s
inductive Fl where
  | next | brk | cont
  | ret (v : V)
noncomputable def FlR (h : Heap) : Fl → Flow → Prop
  | .next, .next => True
  | .brk, .brk => True
  | .cont, .cont => True
  | .ret v, .ret cv => VR h v cv
  | _, _ => False
inductive ExP (C : Cx) (f : Fx) (F : AH) (h : Heap) (Q : Fl → Loc → AH → Prop) (fl : Flow) (s' : Shared) : Prop
  | mk (a : Fl) (ρ' : Loc) (σ' : AH) (x : St C f ρ' F σ' s') (b : FlR s'.heap a fl) (c : Tup h s'.heap) (d : Q a ρ' σ') : ExP C f F h Q fl s'
noncomputable def Ex (C : Cx) (f : Fx) (X : XT) (ρ : Loc) (t : Sem Flow) (σ : AH) (Q : Fl → Loc → AH → Prop) : Prop :=
  ∀ F s, St C f ρ F σ s → wpAny C.M f.A t (ExP C f F s.heap Q) (X F) s
/-- operations on values -/
noncomputable def O1 (C : Cx) (f : Fx) (X : XT) (ρ : Loc) (t : Value → Sem Value) (a : V) (σ : AH) (Q : V → AH → Prop) : Prop :=
  ∀ F s ca, St C f ρ F σ s → VR s.heap a ca → wpAny C.M f.A (t ca) (EvP C f ρ F s.heap Q) (X F) s
noncomputable def O2 (C : Cx) (f : Fx) (X : XT) (ρ : Loc) (t : Value → Value → Sem Value) (a b : V) (σ : AH) (Q : V → AH → Prop) : Prop :=
  ∀ F s ca cb, St C f ρ F σ s → VR s.heap a ca → VR s.heap b cb → wpAny C.M f.A (t ca cb) (EvP C f ρ F s.heap Q) (X F) s
noncomputable def OT (C : Cx) (f : Fx) (X : XT) (ρ : Loc) (a : V) (σ : AH) (Q : Bool → AH → Prop) : Prop :=
  ∀ F s ca, St C f ρ F σ s → VR s.heap a ca → wpAny C.M f.A (truthy ca) (EtP C f ρ F s.heap Q) (X F) s
noncomputable def OC (C : Cx) (f : Fx) (X : XT) (ρ : Loc) (g : V) (args : List V) (kw : List (PySem.Str × V)) (σ : AH) (Q : V → AH → Prop) : Prop :=
  ∀ F s cg cargs ckw, St C f ρ F σ s → VR s.heap g cg → VRs s.heap args cargs → kw.map (·.1) = ckw.map (·.1) → VRs s.heap (kw.map (·.2)) (ckw.map (·.2)) →
    wpAny C.M f.A (call cg cargs ckw) (EvP C f ρ F s.heap Q) (X F) s

/-- what comes next, each by a name of its own (so that a walk's terms stay small) -/
noncomputable abbrev kO1 (C : Cx) (f : Fx) (X : XT) (ρ : Loc) (t : Value → Sem Value) (Q : V → AH → Prop) : V → AH → Prop := fun a σ₁ => O1 C f X ρ t a σ₁ Q
noncomputable abbrev kO2 (C : Cx) (f : Fx) (X : XT) (ρ : Loc) (t : Value → Value → Sem Value) (a : V) (Q : V → AH → Prop) : V → AH → Prop := fun b σ₂ => O2 C f X ρ t a b σ₂ Q
noncomputable abbrev kR2 (C : Cx) (f : Fx) (X : XT) (ρ : Loc) (t : Value → Value → Sem Value) (r : Expr) (Q : V → AH → Prop) : V → AH → Prop := fun a σ₁ => Ev C f X ρ (eval r f.env) σ₁ (kO2 C f X ρ t a Q)
noncomputable abbrev kT (C : Cx) (f : Fx) (X : XT) (ρ : Loc) (Q : Bool → AH → Prop) : V → AH → Prop := fun a σ₁ => OT C f X ρ a σ₁ Q
noncomputable abbrev kIfE (C : Cx) (f : Fx) (X : XT) (ρ : Loc) (b o : Expr) (Q : V → AH → Prop) : Bool → AH → Prop := fun c σ₁ => if c then Ev C f X ρ (eval b f.env) σ₁ Q else Ev C f X ρ (eval o f.env) σ₁ Q
noncomputable abbrev kNot (Q : Bool → AH → Prop) : Bool → AH → Prop := fun b σ₁ => Q (!b) σ₁
noncomputable abbrev kAnd (C : Cx) (f : Fx) (X : XT) (ρ : Loc) (es : List Expr) (Q : Bool → AH → Prop) : Bool → AH → Prop := fun b σ₁ => if b then Et C f X ρ (allTrue .And es f.env) σ₁ Q else Q false σ₁
noncomputable abbrev kOr (C : Cx) (f : Fx) (X : XT) (ρ : Loc) (es : List Expr) (Q : Bool → AH → Prop) : Bool → AH → Prop := fun b σ₁ => if b then Q true σ₁ else Et C f X ρ (allTrue .Or es f.env) σ₁ Q
noncomputable abbrev kSeq (C : Cx) (f : Fx) (X : XT) (rest : List Stmt) (Q : Fl → Loc → AH → Prop) : Fl → Loc → AH → Prop := fun fl ρ₁ σ₁ => match fl with | .next => Ex C f X ρ₁ (execs rest f.env) σ₁ Q | fl => Q fl ρ₁ σ₁
noncomputable abbrev kRet (ρ : Loc) (Q : Fl → Loc → AH → Prop) : V → AH → Prop := fun v σ₁ => Q (.ret v) ρ σ₁
noncomputable abbrev kIte (C : Cx) (f : Fx) (X : XT) (ρ : Loc) (b o : List Stmt) (Q : Fl → Loc → AH → Prop) : Bool → AH → Prop := fun c σ₁ => if c then Ex C f X ρ (execs b f.env) σ₁ Q else Ex C f X ρ (execs o f.env) σ₁ Q
noncomputable abbrev kNext (ρ : Loc) (Q : Fl → Loc → AH → Prop) : V → AH → Prop := fun _ σ₁ => Q .next ρ σ₁
noncomputable abbrev kNx (Q : Fl → Loc → AH → Prop) : Loc → AH → Prop := fun ρ₂ σ₂ => Q .next ρ₂ σ₂
/-- a value, then something with it -/
noncomputable def AsV (C : Cx) (f : Fx) (X : XT) (ρ : Loc) (t : Value → Sem Unit) (v : V) (σ : AH) (Q : Loc → AH → Prop) : Prop :=
  ∀ F s cv, St C f ρ F σ s → VR s.heap v cv → wpAny C.M f.A (t cv) (AsP C f F s.heap Q) (X F) s
noncomputable abbrev kAs (C : Cx) (f : Fx) (X : XT) (ρ : Loc) (t : Value → Sem Unit) (Q : Loc → AH → Prop) : V → AH → Prop := fun v σ₁ => AsV C f X ρ t v σ₁ Q

section
variable {C : Cx} {f : Fx} {X : XT} {ρ : Loc} {σ : AH}

theorem EvP.trans {F : AH} {h h' : Heap} {Q : V → AH → Prop} (x : Tup h h') {cv : Value} {s' : Shared} : EvP C f ρ F h' Q cv s' → EvP C f ρ F h Q cv s' :=
  fun ⟨v, σ', a, b, c, d⟩ => ⟨v, σ', a, b, x.trans c, d⟩
theorem EtP.trans {F : AH} {h h' : Heap} {Q : Bool → AH → Prop} (x : Tup h h') {b : Bool} {s' : Shared} : EtP C f ρ F h' Q b s' → EtP C f ρ F h Q b s' :=
  fun ⟨σ', a, c, d⟩ => ⟨σ', a, x.trans c, d⟩
theorem ExP.trans {F : AH} {h h' : Heap} {Q : Fl → Loc → AH → Prop} (x : Tup h h') {fl : Flow} {s' : Shared} : ExP C f F h' Q fl s' → ExP C f F h Q fl s' :=
  fun ⟨a, ρ', σ', p, b, c, d⟩ => ⟨a, ρ', σ', p, b, x.trans c, d⟩
/-- a walk goes on -/
theorem Ev.on {t : Sem Value} {Q : V → AH → Prop} (h : Ev C f X ρ t σ Q) {F : AH} {s : Shared} {R : Value → Shared → Prop} (x : St C f ρ F σ s)
    (k : ∀ cv v s₁ σ₁, St C f ρ F σ₁ s₁ → VR s₁.heap v cv → Tup s.heap s₁.heap → Q v σ₁ → R cv s₁) : wpAny C.M f.A t R (X F) s :=
  wpAny_mono (h F s x) (fun cv s₁ ⟨v, σ₁, a, b, c, d⟩ => k cv v s₁ σ₁ a b c d) fun _ _ e => e
theorem Et.on {t : Sem Bool} {Q : Bool → AH → Prop} (h : Et C f X ρ t σ Q) {F : AH} {s : Shared} {R : Bool → Shared → Prop} (x : St C f ρ F σ s)
    (k : ∀ b s₁ σ₁, St C f ρ F σ₁ s₁ → Tup s.heap s₁.heap → Q b σ₁ → R b s₁) : wpAny C.M f.A t R (X F) s :=
  wpAny_mono (h F s x) (fun b s₁ ⟨σ₁, a, c, d⟩ => k b s₁ σ₁ a c d) fun _ _ e => e
theorem El.on {t : Sem (List Value)} {Q : List V → AH → Prop} (h : El C f X ρ t σ Q) {F : AH} {s : Shared} {R : List Value → Shared → Prop} (x : St C f ρ F σ s)
    (k : ∀ cv v s₁ σ₁, St C f ρ F σ₁ s₁ → VRs s₁.heap v cv → Tup s.heap s₁.heap → Q v σ₁ → R cv s₁) : wpAny C.M f.A t R (X F) s :=
  wpAny_mono (h F s x) (fun cv s₁ ⟨v, σ₁, a, b, c, d⟩ => k cv v s₁ σ₁ a b c d) fun _ _ e => e
theorem Ex.on {t : Sem Flow} {Q : Fl → Loc → AH → Prop} (h : Ex C f X ρ t σ Q) {F : AH} {s : Shared} {R : Flow → Shared → Prop} (x : St C f ρ F σ s)
    (k : ∀ fl a s₁ ρ₁ σ₁, St C f ρ₁ F σ₁ s₁ → FlR s₁.heap a fl → Tup s.heap s₁.heap → Q a ρ₁ σ₁ → R fl s₁) : wpAny C.M f.A t R (X F) s :=
  wpAny_mono (h F s x) (fun cv s₁ ⟨v, ρ₁, σ₁, a, b, c, d⟩ => k cv v s₁ ρ₁ σ₁ a b c d) fun _ _ e => e
/-- the same, the heap longer kept -/
theorem Ev.up {t : Sem Value} {Q : V → AH → Prop} (h : Ev C f X ρ t σ Q) {F : AH} {s : Shared} {h₀ : Heap} (x : St C f ρ F σ s) (t₀ : Tup h₀ s.heap) : wpAny C.M f.A t (EvP C f ρ F h₀ Q) (X F) s :=
  wpAny_mono (h F s x) (fun _ _ e => e.trans t₀) fun _ _ e => e
theorem Et.up {t : Sem Bool} {Q : Bool → AH → Prop} (h : Et C f X ρ t σ Q) {F : AH} {s : Shared} {h₀ : Heap} (x : St C f ρ F σ s) (t₀ : Tup h₀ s.heap) : wpAny C.M f.A t (EtP C f ρ F h₀ Q) (X F) s :=
  wpAny_mono (h F s x) (fun _ _ e => e.trans t₀) fun _ _ e => e
theorem Ex.up {t : Sem Flow} {Q : Fl → Loc → AH → Prop} (h : Ex C f X ρ t σ Q) {F : AH} {s : Shared} {h₀ : Heap} (x : St C f ρ F σ s) (t₀ : Tup h₀ s.heap) : wpAny C.M f.A t (ExP C f F h₀ Q) (X F) s :=
  wpAny_mono (h F s x) (fun _ _ e => e.trans t₀) fun _ _ e => e
theorem O1.up {t : Value → Sem Value} {a : V} {Q : V → AH → Prop} (h : O1 C f X ρ t a σ Q) {F : AH} {s : Shared} {h₀ : Heap} {ca : Value} (x : St C f ρ F σ s) (r : VR s.heap a ca) (t₀ : Tup h₀ s.heap) : wpAny C.M f.A (t ca) (EvP C f ρ F h₀ Q) (X F) s :=
  wpAny_mono (h F s ca x r) (fun _ _ e => e.trans t₀) fun _ _ e => e
theorem O2.up {t : Value → Value → Sem Value} {a b : V} {Q : V → AH → Prop} (h : O2 C f X ρ t a b σ Q) {F : AH} {s : Shared} {h₀ : Heap} {ca cb : Value} (x : St C f ρ F σ s) (r : VR s.heap a ca) (r' : VR s.heap b cb) (t₀ : Tup h₀ s.heap) : wpAny C.M f.A (t ca cb) (EvP C f ρ F h₀ Q) (X F) s :=
  wpAny_mono (h F s ca cb x r r') (fun _ _ e => e.trans t₀) fun _ _ e => e
theorem O2.on {t : Value → Value → Sem Value} {a b : V} {Q : V → AH → Prop} (h : O2 C f X ρ t a b σ Q) {F : AH} {s : Shared} {R : Value → Shared → Prop} {ca cb : Value} (x : St C f ρ F σ s) (r : VR s.heap a ca) (r' : VR s.heap b cb)
    (k : ∀ cv v s₁ σ₁, St C f ρ F σ₁ s₁ → VR s₁.heap v cv → Tup s.heap s₁.heap → Q v σ₁ → R cv s₁) : wpAny C.M f.A (t ca cb) R (X F) s :=
  wpAny_mono (h F s ca cb x r r') (fun cv s₁ ⟨v, σ₁, a, b, c, d⟩ => k cv v s₁ σ₁ a b c d) fun _ _ e => e
theorem OT.up {a : V} {Q : Bool → AH → Prop} (h : OT C f X ρ a σ Q) {F : AH} {s : Shared} {h₀ : Heap} {ca : Value} (x : St C f ρ F σ s) (r : VR s.heap a ca) (t₀ : Tup h₀ s.heap) : wpAny C.M f.A (truthy ca) (EtP C f ρ F h₀ Q) (X F) s :=
  wpAny_mono (h F s ca x r) (fun _ _ e => e.trans t₀) fun _ _ e => e

theorem Ev.mono {t : Sem Value} {Q Q' : V → AH → Prop} (h : Ev C f X ρ t σ Q) (hq : ∀ v σ', Q v σ' → Q' v σ') : Ev C f X ρ t σ Q' :=
  fun F s x => wpAny_mono (h F s x) (fun _ _ ⟨v, σ', a, b, c, d⟩ => ⟨v, σ', a, b, c, hq v σ' d⟩) fun _ _ e => e

theorem Ev.const_int {i : Int} {k : Nat} {pos : Pos} {Q : V → AH → Prop} (h : Q (.int i) σ) : Ev C f X ρ (eval (.Constant (.int i) k pos) f.env) σ Q :=
  fun F s x => wpAny_Constant_int ⟨_, _, x.toks _, .int, Tup.refl _, h⟩
theorem Ev.const_str {t : PySem.Str} {l : List Nat} {k : Nat} {pos : Pos} {Q : V → AH → Prop} (e : t = tx l) (h : Q (.str l) σ) : Ev C f X ρ (eval (.Constant (.str t) k pos) f.env) σ Q := by
  subst e
  exact fun F s x => wpAny_Constant_str ⟨_, _, x.toks _, .str, Tup.refl _, h⟩
theorem Ev.const_none {k : Nat} {pos : Pos} {Q : V → AH → Prop} (h : Q .none σ) : Ev C f X ρ (eval (.Constant .none k pos) f.env) σ Q :=
  fun F s x => wpAny_Constant_none ⟨_, _, x, .none, Tup.refl _, h⟩
theorem Ev.const_bool {b : Bool} {k : Nat} {pos : Pos} {Q : V → AH → Prop} (h : Q (.bool b) σ) : Ev C f X ρ (eval (.Constant (.bool b) k pos) f.env) σ Q :=
  fun F s x => wpAny_Constant_bool ⟨_, _, x, .bool, Tup.refl _, h⟩

/-- where a name stands in the scope -/
inductive NameAt : List (PySem.Str × NameKind) → PySem.Str → NameKind → Nat → Prop
  | head {x k r} : NameAt ((x, k) :: r) x k 0
  | tail {e r x k i} : NameAt r x k i → NameAt (e :: r) x k (i + 1)
theorem NameAt.get {l : List (PySem.Str × NameKind)} {x : PySem.Str} {k : NameKind} {i : Nat} (h : NameAt l x k i) : l[i]? = some (x, k) := by
  induction h with
  | head => rfl
  | tail _ ih => simpa using ih
theorem NameAt.name {l : List (PySem.Str × NameKind)} {x : PySem.Str} {k : NameKind} {i : Nat} (h : NameAt l x k i) : (l.map (·.1))[i]? = some x := by
  rw [List.getElem?_map, h.get]; rfl
theorem NameAt.lookup {l : List (PySem.Str × NameKind)} {x : PySem.Str} {k : NameKind} {i : Nat} (h : NameAt l x k i) (hn : (l.map (·.1)).Nodup) : l.lookup x = some k := by
  induction h with
  | head => simp [List.lookup]
  | tail h ih =>
    rename_i e r x k i
    rw [List.map_cons, List.nodup_cons] at hn
    have hx : x ∈ r.map (·.1) := List.mem_of_getElem? h.name
    have : (x == e.1) = false := by
      rw [beq_eq_false_iff_ne]; rintro rfl; exact hn.1 hx
    obtain ⟨e1, e2⟩ := e
    rw [List.lookup_cons, this]; exact ih hn.2

theorem Fx.Ok.at {d : Nat} {ns : List (PySem.Str × NameKind)} {x : PySem.Str} {k : NameKind} {i : Nat} (ok : f.Ok d ns) (hi : NameAt ns x k i) : NameAt f.env.scope.names x k i := ok.names ▸ hi
theorem Ev.name_local {d : Nat} {ns : List (PySem.Str × NameKind)} {x : PySem.Str} {pos : Pos} {i : Nat} {v : V} {Q : V → AH → Prop} (ok : f.Ok d ns) (hi : NameAt ns x .local i) (hv : ρ[i]? = some (some v)) (h : Q v σ)
    (hd : (x == ("__debug__" : PySem.Str)) = false := by decide) : Ev C f X ρ (eval (.Name x pos) f.env) σ Q := fun F s y => by
  obtain ⟨m, hm, hr⟩ := y.locals
  obtain ⟨cv, e, r⟩ := hr i x v (ok.at hi).name hv
  exact wpAny_Name (wpAny_loadName_local ok.kind ((ok.at hi).lookup ok.nd) hm e ⟨v, σ, y, r, Tup.refl _, h⟩) hd

theorem Ev.binop {l r : Expr} {op : Operator} {pos : Pos} {Q : V → AH → Prop}
    (h : Ev C f X ρ (eval l f.env) σ (kR2 C f X ρ (binaryOp op) r Q)) : Ev C f X ρ (eval (.BinOp l op r pos) f.env) σ Q :=
  fun F s x => wpAny_BinOp (h.on x fun ca a s₁ σ₁ x₁ r₁ t₁ h₁ => h₁.on x₁ fun cb b s₂ σ₂ x₂ r₂ t₂ h₂ => h₂.up x₂ (r₁.mono t₂) r₂ (t₁.trans t₂))
theorem Ev.unop {e : Expr} {op : UnaryOp} {pos : Pos} {Q : V → AH → Prop}
    (h : Ev C f X ρ (eval e f.env) σ (kO1 C f X ρ (unaryOp op) Q)) : Ev C f X ρ (eval (.UnaryOp op e pos) f.env) σ Q :=
  fun F s x => wpAny_UnaryOp (h.on x fun ca a s₁ σ₁ x₁ r₁ t₁ h₁ => h₁.up x₁ r₁ t₁)
theorem Ev.compare1 {l r : Expr} {op : CmpOp} {pos : Pos} {Q : V → AH → Prop}
    (h : Ev C f X ρ (eval l f.env) σ (kR2 C f X ρ (compareOp op) r Q))
    (hm : behindInMarks op r = false := by with_unfolding_all rfl) : Ev C f X ρ (eval (.Compare l [op] [r] pos) f.env) σ Q :=
  fun F s x => wpAny_Compare1 (h.on x fun ca a s₁ σ₁ x₁ r₁ t₁ h₁ => h₁.on x₁ fun cb b s₂ σ₂ x₂ r₂ t₂ h₂ => h₂.up x₂ (r₁.mono t₂) r₂ (t₁.trans t₂)) hm
theorem Ev.ifexp {t b o : Expr} {pos : Pos} {Q : V → AH → Prop}
    (h : Et C f X ρ (isTrue t f.env (eval t f.env)) σ (kIfE C f X ρ b o Q)) : Ev C f X ρ (eval (.IfExp t b o pos) f.env) σ Q :=
  fun F s x => wpAny_IfExp (h.on x fun c s₁ σ₁ x₁ t₁ h₁ => by
    cases c
    · exact h₁.up x₁ t₁
    · exact h₁.up x₁ t₁)

theorem Et.compare1 {l r : Expr} {op : CmpOp} {pos : Pos} {wh : Sem Value} {Q : Bool → AH → Prop}
    (h : Ev C f X ρ (eval l f.env) σ (kR2 C f X ρ (compareOp op) r (kT C f X ρ Q)))
    (hm : behindInMarks op r = false := by with_unfolding_all rfl) : Et C f X ρ (isTrue (.Compare l [op] [r] pos) f.env wh) σ Q :=
  fun F s x => wpAny_isTrue_Compare1 (h.on x fun ca a s₁ σ₁ x₁ r₁ t₁ h₁ => h₁.on x₁ fun cb b s₂ σ₂ x₂ r₂ t₂ h₂ => h₂.on x₂ (r₁.mono t₂) r₂ fun cc c s₃ σ₃ x₃ r₃ t₃ h₃ => h₃.up x₃ r₃ ((t₁.trans t₂).trans t₃)) hm
theorem Et.not {e : Expr} {pos : Pos} {wh : Sem Value} {Q : Bool → AH → Prop} (h : Et C f X ρ (isTrue e f.env (eval e f.env)) σ (kNot Q)) :
    Et C f X ρ (isTrue (.UnaryOp .Not e pos) f.env wh) σ Q := fun F s x => wpAny_isTrue_Not (h.on x fun b s₁ σ₁ x₁ t₁ h₁ => ⟨σ₁, x₁, t₁, h₁⟩)
theorem Et.boolop {op : BoolOp} {es : List Expr} {pos : Pos} {wh : Sem Value} {Q : Bool → AH → Prop} (h : Et C f X ρ (allTrue op es f.env) σ Q) :
    Et C f X ρ (isTrue (.BoolOp op es pos) f.env wh) σ Q := fun F s x => wpAny_isTrue_BoolOp (h F s x)
theorem Et.and_nil {Q : Bool → AH → Prop} (h : Q true σ) : Et C f X ρ (allTrue .And [] f.env) σ Q := fun F s x => wpAny_allTrue_And_nil ⟨σ, x, Tup.refl _, h⟩
theorem Et.or_nil {Q : Bool → AH → Prop} (h : Q false σ) : Et C f X ρ (allTrue .Or [] f.env) σ Q := fun F s x => wpAny_allTrue_Or_nil ⟨σ, x, Tup.refl _, h⟩
theorem Et.and_cons {e : Expr} {es : List Expr} {Q : Bool → AH → Prop} (h : Et C f X ρ (isTrue e f.env (eval e f.env)) σ (kAnd C f X ρ es Q)) :
    Et C f X ρ (allTrue .And (e :: es) f.env) σ Q := fun F s x => wpAny_allTrue_And_cons (h.on x fun c s₁ σ₁ x₁ t₁ h₁ => by
    cases c
    · exact ⟨σ₁, x₁, t₁, h₁⟩
    · exact h₁.up x₁ t₁)
theorem Et.or_cons {e : Expr} {es : List Expr} {Q : Bool → AH → Prop} (h : Et C f X ρ (isTrue e f.env (eval e f.env)) σ (kOr C f X ρ es Q)) :
    Et C f X ρ (allTrue .Or (e :: es) f.env) σ Q := fun F s x => wpAny_allTrue_Or_cons (h.on x fun c s₁ σ₁ x₁ t₁ h₁ => by
    cases c
    · exact h₁.up x₁ t₁
    · exact ⟨σ₁, x₁, t₁, h₁⟩)
theorem Et.value {e : Expr} {wh : Sem Value} {Q : Bool → AH → Prop} (h : Ev C f X ρ wh σ (kT C f X ρ Q))
    (he : isTrue e f.env wh = (do let v ← wh; standAt e.pos; holding [v] (truthy v)) := by with_unfolding_all rfl) : Et C f X ρ (isTrue e f.env wh) σ Q :=
  fun F s x => wpAny_isTrue_value (h.on x fun ca a s₁ σ₁ x₁ r₁ t₁ h₁ => h₁.up x₁ r₁ t₁) he

/-- statements -/
theorem Ex.nil {Q : Fl → Loc → AH → Prop} (h : Q .next ρ σ) : Ex C f X ρ (execs [] f.env) σ Q := fun F s x => wpAny_execs_nil ⟨.next, ρ, σ, x, trivial, Tup.refl _, h⟩
theorem Ex.mono {t : Sem Flow} {Q Q' : Fl → Loc → AH → Prop} (h : Ex C f X ρ t σ Q) (hq : ∀ a ρ' σ', Q a ρ' σ' → Q' a ρ' σ') : Ex C f X ρ t σ Q' :=
  fun F s x => wpAny_mono (h F s x) (fun _ _ ⟨v, ρ', σ', a, b, c, d⟩ => ⟨v, ρ', σ', a, b, c, hq v ρ' σ' d⟩) fun _ _ e => e
theorem Ex.cons {st : Stmt} {rest : List Stmt} {Q : Fl → Loc → AH → Prop}
    (h : Ex C f X ρ (exec st f.env) σ (kSeq C f X rest Q)) : Ex C f X ρ (execs (st :: rest) f.env) σ Q :=
  fun F s x => wpAny_execs_cons (h.on x fun fl a s₁ ρ₁ σ₁ x₁ r₁ t₁ h₁ => by
    cases a <;> cases fl <;> first
      | exact r₁.elim
      | exact ⟨_, ρ₁, σ₁, x₁, r₁, t₁, h₁⟩
      | exact h₁.up x₁ t₁)
theorem Ex.brk {pos : Pos} {Q : Fl → Loc → AH → Prop} (h : Q .brk ρ σ) : Ex C f X ρ (exec (.Break pos) f.env) σ Q := fun F s x => wpAny_Break ⟨.brk, ρ, σ, x, trivial, Tup.refl _, h⟩
theorem Ex.cont {pos : Pos} {Q : Fl → Loc → AH → Prop} (h : Q .cont ρ σ) : Ex C f X ρ (exec (.Continue pos) f.env) σ Q := fun F s x => wpAny_Continue ⟨.cont, ρ, σ, x, trivial, Tup.refl _, h⟩
theorem Ex.ret {e : Expr} {pos : Pos} {Q : Fl → Loc → AH → Prop} (h : Ev C f X ρ (eval e f.env) σ (kRet ρ Q)) : Ex C f X ρ (exec (.Return (some e) pos) f.env) σ Q :=
  fun F s x => wpAny_Return_some (h.on x fun cv v s₁ σ₁ x₁ r₁ t₁ h₁ => ⟨.ret v, ρ, σ₁, x₁, r₁, t₁, h₁⟩)
theorem Ex.ite {t : Expr} {b o : List Stmt} {pos : Pos} {Q : Fl → Loc → AH → Prop}
    (h : Et C f X ρ (isTrue t f.env (eval t f.env)) σ (kIte C f X ρ b o Q)) : Ex C f X ρ (exec (.If t b o pos) f.env) σ Q :=
  fun F s x => wpAny_If (h.on x fun c s₁ σ₁ x₁ t₁ h₁ => by
    cases c
    · exact h₁.up x₁ t₁
    · exact h₁.up x₁ t₁)
theorem Ex.expr {e : Expr} {pos : Pos} {Q : Fl → Loc → AH → Prop} (h : Ev C f X ρ (eval e f.env) σ (kNext ρ Q))
    (hi : interactive f.env = false) (hs : swapsWith e none pos.line f.env = pure false) : Ex C f X ρ (exec (.Expr e pos) f.env) σ Q :=
  fun F s x => wpAny_Expr_any (h.on x fun cv v s₁ σ₁ x₁ r₁ t₁ h₁ => ⟨.next, ρ, σ₁, x₁, trivial, t₁, h₁⟩) hi hs

theorem wpAny_assignAll_one {M : Model} {A : Around} {E : Value → Shared → Prop} {s : Shared} {v : Value} {t : Value → Sem Unit} {Q : Unit → Shared → Prop} (h : wpAny M A (t v) Q E s) : wpAny M A (assignAll v [t]) Q E s := h

theorem Ex.assign {t value : Expr} {pos : Pos} {Q : Fl → Loc → AH → Prop}
    (h : Ev C f X ρ (eval value f.env) σ (kAs C f X ρ (assign t f.env) (kNx Q)))
    (hst : assignEach [t] f.env = [(false, assign t f.env)])
    (hs : swapsWithSole [t] value pos.line f.env = pure false) (hw : swappedStores [t] value f.env = pure none) : Ex C f X ρ (exec (.Assign [t] value pos) f.env) σ Q :=
  fun F s x => wpAny_Assign_stores (wpAny_mono (h F s x) (fun cv s₁ ⟨v, σ₁, x₁, r₁, t₁, h₁⟩ => by
    rw [hst]
    exact wpAny_assignAll_one (wpAny_mono (h₁ F s₁ cv x₁ r₁) (fun _ _ ⟨ρ₂, σ₂, p, q, r⟩ => ⟨.next, ρ₂, σ₂, p, trivial, t₁.trans q, r⟩) fun _ _ e => e)) fun _ _ e => e) hs hw

theorem AsV.name {d : Nat} {ns : List (PySem.Str × NameKind)} {x : PySem.Str} {pos : Pos} {i : Nat} {v : V} {Q : Loc → AH → Prop} (ok : f.Ok d ns) (hi : NameAt ns x .local i) (h : Q (ρ.set i (some v)) σ) :
    AsV C f X ρ (assign (.Name x pos) f.env) v σ Q := fun F s cv y r => by
  obtain ⟨m, hm, hr⟩ := y.locals
  have hp : (f.env.scope.kind == .class || (f.env.scope.kind == .module && f.env.locals != f.env.globals)) = false := by rw [ok.kind]; rfl
  refine wpAny_assign_Name (wpAny_storeName_local ((ok.at hi).lookup ok.nd) hm (fun h' hn hs => ?_) hp)
  have z := y.store ok.nd (ok.at hi).name r hm hr hn hs (s.toks + 1)
  exact ⟨_, σ, z.1, z.2, h⟩

end
end Mine

namespace Mine
theorem plainAttrs_deque : PlainAttrs "collections.deque" :=
  ⟨⟨"collections.deque.__getattribute__", by rw [typeLookup_type, builtinLookup_eq_fast]; kernel_rfl, by decide +kernel⟩, by rw [typeLookup_type, builtinLookup_eq_fast]; kernel_rfl⟩
theorem owner_deque : Manifest.owners.lookup (String.ofList ['e', 'u', 'q', 'e', 'd', '.', 's', 'n', 'o', 'i', 't', 'c', 'e', 'l', 'l', 'o', 'c'].reverse) = some Manifest.sig_collections_deque := by kernel_rfl
theorem deque_no_bool : typeLookup (.type "collections.deque") "__bool__" = pure none := by rw [typeLookup_type, builtinLookup_eq_fast]; kernel_rfl
theorem slot_deque_append : Slot "collections.deque" "append" "collections.deque.append" :=
  .of (owner := "collections.deque") (n := "append") (by rw [typeLookup_type, builtinLookup_eq_fast]; kernel_rfl) (by decide +kernel) (by decide +kernel) (by decide +kernel)
    (by first | exact .inl (by decide +kernel) | exact .inr (by decide +kernel)) (by rw [isSubtype_type]; kernel_rfl)
theorem entry_deque_append : entryFor table "collections.deque.append" = some Builtin.«collections.deque.append» := entryFor_of_tree (by kernel_rfl)
theorem args_deque_append (a b : Value) : argsOk "collections.deque.append" ⟨[a, b], []⟩ := by
  unfold argsOk; rw [signature?_of (id := "collections.deque.append") (n := ['d', 'n', 'e', 'p', 'p', 'a']) (o := ['e', 'u', 'q', 'e', 'd', '.', 's', 'n', 'o', 'i', 't', 'c', 'e', 'l', 'l', 'o', 'c']) (by kernel_rfl) owner_deque]; kernel_rfl
theorem type_deque_append : typeOf (.builtin "collections.deque.append") = pure (.type "method_descriptor") := by show builtinType _ = _; rw [builtinType_eq_fast]; kernel_rfl
theorem slot_deque_appendleft : Slot "collections.deque" "appendleft" "collections.deque.appendleft" :=
  .of (owner := "collections.deque") (n := "appendleft") (by rw [typeLookup_type, builtinLookup_eq_fast]; kernel_rfl) (by decide +kernel) (by decide +kernel) (by decide +kernel)
    (by first | exact .inl (by decide +kernel) | exact .inr (by decide +kernel)) (by rw [isSubtype_type]; kernel_rfl)
theorem entry_deque_appendleft : entryFor table "collections.deque.appendleft" = some Builtin.«collections.deque.appendleft» := entryFor_of_tree (by kernel_rfl)
theorem args_deque_appendleft (a b : Value) : argsOk "collections.deque.appendleft" ⟨[a, b], []⟩ := by
  unfold argsOk; rw [signature?_of (id := "collections.deque.appendleft") (n := ['t', 'f', 'e', 'l', 'd', 'n', 'e', 'p', 'p', 'a']) (o := ['e', 'u', 'q', 'e', 'd', '.', 's', 'n', 'o', 'i', 't', 'c', 'e', 'l', 'l', 'o', 'c']) (by kernel_rfl) owner_deque]; kernel_rfl
theorem type_deque_appendleft : typeOf (.builtin "collections.deque.appendleft") = pure (.type "method_descriptor") := by show builtinType _ = _; rw [builtinType_eq_fast]; kernel_rfl
theorem slot_deque_pop : Slot "collections.deque" "pop" "collections.deque.pop" :=
  .of (owner := "collections.deque") (n := "pop") (by rw [typeLookup_type, builtinLookup_eq_fast]; kernel_rfl) (by decide +kernel) (by decide +kernel) (by decide +kernel)
    (by first | exact .inl (by decide +kernel) | exact .inr (by decide +kernel)) (by rw [isSubtype_type]; kernel_rfl)
theorem entry_deque_pop : entryFor table "collections.deque.pop" = some Builtin.«collections.deque.pop» := entryFor_of_tree (by kernel_rfl)
theorem args_deque_pop (a : Value) : argsOk "collections.deque.pop" ⟨[a], []⟩ := by
  unfold argsOk; rw [signature?_of (id := "collections.deque.pop") (n := ['p', 'o', 'p']) (o := ['e', 'u', 'q', 'e', 'd', '.', 's', 'n', 'o', 'i', 't', 'c', 'e', 'l', 'l', 'o', 'c']) (by kernel_rfl) owner_deque]; kernel_rfl
theorem type_deque_pop : typeOf (.builtin "collections.deque.pop") = pure (.type "method_descriptor") := by show builtinType _ = _; rw [builtinType_eq_fast]; kernel_rfl
theorem slot_deque_popleft : Slot "collections.deque" "popleft" "collections.deque.popleft" :=
  .of (owner := "collections.deque") (n := "popleft") (by rw [typeLookup_type, builtinLookup_eq_fast]; kernel_rfl) (by decide +kernel) (by decide +kernel) (by decide +kernel)
    (by first | exact .inl (by decide +kernel) | exact .inr (by decide +kernel)) (by rw [isSubtype_type]; kernel_rfl)
theorem entry_deque_popleft : entryFor table "collections.deque.popleft" = some Builtin.«collections.deque.popleft» := entryFor_of_tree (by kernel_rfl)
theorem args_deque_popleft (a : Value) : argsOk "collections.deque.popleft" ⟨[a], []⟩ := by
  unfold argsOk; rw [signature?_of (id := "collections.deque.popleft") (n := ['t', 'f', 'e', 'l', 'p', 'o', 'p']) (o := ['e', 'u', 'q', 'e', 'd', '.', 's', 'n', 'o', 'i', 't', 'c', 'e', 'l', 'l', 'o', 'c']) (by kernel_rfl) owner_deque]; kernel_rfl
theorem type_deque_popleft : typeOf (.builtin "collections.deque.popleft") = pure (.type "method_descriptor") := by show builtinType _ = _; rw [builtinType_eq_fast]; kernel_rfl
theorem slot_deque_len : Slot "collections.deque" "__len__" "collections.deque.__len__" :=
  .of (owner := "collections.deque") (n := "__len__") (by rw [typeLookup_type, builtinLookup_eq_fast]; kernel_rfl) (by decide +kernel) (by decide +kernel) (by decide +kernel)
    (by first | exact .inl (by decide +kernel) | exact .inr (by decide +kernel)) (by rw [isSubtype_type]; kernel_rfl)
theorem entry_deque_len : entryFor table "collections.deque.__len__" = some Builtin.«collections.deque.__len__» := entryFor_of_tree (by kernel_rfl)
theorem args_deque_len (a : Value) : argsOk "collections.deque.__len__" ⟨[a], []⟩ := by
  unfold argsOk; rw [signature?_of (id := "collections.deque.__len__") (n := ['_', '_', 'n', 'e', 'l', '_', '_']) (o := ['e', 'u', 'q', 'e', 'd', '.', 's', 'n', 'o', 'i', 't', 'c', 'e', 'l', 'l', 'o', 'c']) (by kernel_rfl) owner_deque]; kernel_rfl
end Mine

namespace Mine
noncomputable abbrev dqObj (k : Int) (cvs : List Value) : Obj := ⟨.type "collections.deque", none, .fields (List.toArray (.none :: rawInt k :: cvs)), #[]⟩

section
variable {M : Model} {A : Around} {E : Value → Shared → Prop} {s : Shared}
theorem dq_items {a : Addr} {k : Int} {cvs : List Value} {Q : Array Value → Shared → Prop} (ho : s.heap.get? a = some (dqObj k cvs)) (h : Q (List.toArray cvs) s) : wpAny M A (Builtin.Deque.items (.ref a)) Q E s := by
  unfold Builtin.Deque.items
  refine wpAny_bind (wpAny_fieldsOf ho rfl (wpAny_pure ?_))
  simpa using h
theorem dq_size {a : Addr} {k : Int} {cvs : List Value} {Q : Nat → Shared → Prop} (ho : s.heap.get? a = some (dqObj k cvs)) (h : Q cvs.length s) : wpAny M A (Builtin.Deque.size (.ref a)) Q E s := by
  unfold Builtin.Deque.size
  refine wpAny_bind (wpAny_fieldsOf ho rfl (wpAny_pure ?_))
  simpa using h
theorem dq_maxlen {a : Addr} {k : Int} {cvs : List Value} {Q : Option Nat → Shared → Prop} (ho : s.heap.get? a = some (dqObj k cvs)) (h : Q none s) : wpAny M A (Builtin.Deque.maxlen (.ref a)) Q E s := by
  unfold Builtin.Deque.maxlen
  exact wpAny_bind (wpAny_field ho rfl (x := .none) rfl (wpAny_pure h))
theorem dq_change {a : Addr} {k : Int} {cvs : List Value} {g : Array Value → Array Value} {Q : Unit → Shared → Prop} (ho : s.heap.get? a = some (dqObj k cvs)) (hz : (g (List.toArray cvs)).size ≤ sizeLine)
    (h : ∀ h', h'.get? a = some (dqObj (k + 1) (g (List.toArray cvs)).toList) → Heap.SameBut a s.heap h' → Q () { s with heap := h' }) : wpAny M A (Builtin.Deque.change (.ref a) g) Q E s := by
  unfold Builtin.Deque.change Builtin.Deque.state
  refine wpAny_bind (wpAny_bind (wpAny_field ho rfl (x := rawInt k) rfl (wpAny_pure ?_)))
  refine wpAny_updateFields ho rfl (h _ ?_ (Heap.SameBut.update ..)) ?_
  · have := Heap.get?_update_self (h := s.heap) (Obj.mapFields fun vs => #[vs.getD 0 .none, rawInt (if true then k + 1 else k)] ++ g (vs.extract 2 vs.size)) ho rfl
    refine this.trans ?_
    simp [Obj.mapFields, dqObj]
  · simp only [Array.size_append]
    have : (List.toArray (Value.none :: rawInt k :: cvs)).extract 2 (List.toArray (Value.none :: rawInt k :: cvs)).size = List.toArray cvs := by simp
    rw [this]
    simp; omega
end

section
variable {C : Cx} {f : Fx} {X : XT} {ρ : Loc} {σ : AH} {d : Nat}
theorem St.typeIs {F : AH} {s : Shared} {a : Addr} {vs : List V} (x : St C f ρ F σ s) (h : σ a = some (.deque vs)) : s.TypeIs (.ref a) "collections.deque" := by
  obtain ⟨cvs, k, ho, _⟩ := x.obj h
  exact ⟨_, ho, rfl⟩
theorem VRs.one {h : Heap} {v : V} {cvs : List Value} (x : VRs h [v] cvs) : ∃ c, cvs = [c] ∧ VR h v c := by
  cases x with | cons a b => cases b; exact ⟨_, rfl, a⟩
theorem VRs.two {h : Heap} {v w : V} {cvs : List Value} (x : VRs h [v, w] cvs) : ∃ c e, cvs = [c, e] ∧ VR h v c ∧ VR h w e := by
  cases x with | cons a b => obtain ⟨e, rfl, z⟩ := b.one; exact ⟨_, e, rfl, a, z⟩
theorem VRs.three {h : Heap} {v w u : V} {cvs : List Value} (x : VRs h [v, w, u] cvs) : ∃ c e g, cvs = [c, e, g] ∧ VR h v c ∧ VR h w e ∧ VR h u g := by
  cases x with | cons a b => obtain ⟨e, g, rfl, z, y⟩ := b.two; exact ⟨_, e, g, rfl, a, z, y⟩
theorem VR.refI {h : Heap} {a : Addr} {c : Value} (x : VR h (.ref a) c) : c = .ref a := by cases x; rfl
theorem VR.statI {h : Heap} {v c : Value} (x : VR h (.stat v) c) : c = v := by cases x; rfl
theorem VR.strI {h : Heap} {l : List Nat} {c : Value} (x : VR h (.str l) c) : ∃ t, c = .str (tx l) t := by cases x; exact ⟨_, rfl⟩
theorem VR.intI {h : Heap} {i : Int} {c : Value} (x : VR h (.int i) c) : ∃ t, c = .int i t := by cases x; exact ⟨_, rfl⟩
theorem VR.boolI {h : Heap} {b : Bool} {c : Value} (x : VR h (.bool b) c) : c = .bool b := by cases x; rfl
theorem VR.noneI {h : Heap} {c : Value} (x : VR h .none c) : c = .none := by cases x; rfl
theorem VR.tupI {h : Heap} {vs : List V} {c : Value} (x : VR h (.tup vs) c) : ∃ a cvs, c = .ref a ∧ h.IsTuple a (List.toArray cvs) ∧ VRs h vs cvs := by cases x; exact ⟨_, _, rfl, by assumption, by assumption⟩

theorem VRs.unsnoc {h : Heap} : ∀ {vs : List V} {v : V} {cvs : List Value}, VRs h (vs ++ [v]) cvs → ∃ cws cv, cvs = cws ++ [cv] ∧ VRs h vs cws ∧ VR h v cv
  | [], _, _, x => by obtain ⟨c, rfl, r⟩ := x.one; exact ⟨[], c, rfl, .nil, r⟩
  | u :: us, _, _, .cons a b => by obtain ⟨cws, cv, rfl, p, q⟩ := b.unsnoc; exact ⟨_ :: cws, cv, rfl, .cons a p, q⟩
theorem kw_nil {kw : List (PySem.Str × Value)} (h : ([] : List (PySem.Str × V)).map (·.1) = kw.map (·.1)) : kw = [] := by cases kw with | nil => rfl | cons a b => simp at h
/-- a call of a built-in with these arguments -/
theorem OC.builtin {id : String} {args : List V} {Q : V → AH → Prop}
    (h : ∀ F s cargs, St C f ρ F σ s → VRs s.heap args cargs → wpAny C.M f.A (call (.builtin id) cargs) (EvP C f ρ F s.heap Q) (X F) s) : OC C f X ρ (.stat (.builtin id)) args [] σ Q := by
  intro F s cg cargs ckw x hg ha hk _
  cases hg.statI
  obtain rfl := kw_nil hk
  exact h F s cargs x ha

theorem OC.deque_popleft {a : Addr} {v : V} {vs : List V} {Q : V → AH → Prop} (ha : σ a = some (.deque (v :: vs))) (hsz : vs.length ≤ 1000000) (h : Q v (σ.set a (.deque vs))) :
    OC C f X ρ (.stat (.builtin "collections.deque.popleft")) [.ref a] [] σ Q := OC.builtin fun F s cargs x r => by
  obtain ⟨_, rfl, r'⟩ := r.one; cases r'.refI
  obtain ⟨cvs, k, ho, hr⟩ := x.obj ha
  cases hr with | cons hv hr =>
  rename_i cv cvs
  refine wpAny_call_entry slot_deque_popleft (x.typeIs ha) entry_deque_popleft ?_ (args_deque_popleft _)
  unfold Builtin.«collections.deque.popleft»
  refine wpAny_bind (m := selfOnly "deque.popleft" _) (wpAny_pure ?_)
  refine wpAny_bind (dq_items ho ?_)
  have e : (List.toArray (cv :: cvs))[0]? = some cv := by simp
  rw [e]
  dsimp only
  refine wpAny_bind (dq_change ho (by have := hr.length; simp [Array.eraseIdxIfInBounds]; rw [sizeLine_eq]; omega) fun h' hg hs => wpAny_pure ⟨cv, rfl, ?_⟩)
  have z := x.upd (o' := .deque vs) ha hs ⟨cvs, k + 1, by rw [hg]; simp [Array.eraseIdxIfInBounds], hr.mono ((x.obj ha).tup hs)⟩ s.toks
  exact ⟨_, _, z.1, hv.mono z.2, z.2, h⟩
theorem OC.deque_pop {a : Addr} {v : V} {vs : List V} {Q : V → AH → Prop} (ha : σ a = some (.deque (vs ++ [v]))) (hsz : vs.length ≤ 1000000) (h : Q v (σ.set a (.deque vs))) :
    OC C f X ρ (.stat (.builtin "collections.deque.pop")) [.ref a] [] σ Q := OC.builtin fun F s cargs x r => by
  obtain ⟨_, rfl, r'⟩ := r.one; cases r'.refI
  obtain ⟨cvs, k, ho, hr⟩ := x.obj ha
  obtain ⟨cws, cv, rfl, hws, hv⟩ := hr.unsnoc
  refine wpAny_call_entry slot_deque_pop (x.typeIs ha) entry_deque_pop ?_ (args_deque_pop _)
  unfold Builtin.«collections.deque.pop»
  refine wpAny_bind (m := selfOnly "deque.pop" _) (wpAny_pure ?_)
  refine wpAny_bind (dq_items ho ?_)
  have e : (List.toArray (cws ++ [cv])).back? = some cv := by simp
  rw [e]
  dsimp only
  refine wpAny_bind (dq_change ho (by have := hws.length; simp; rw [sizeLine_eq]; omega) fun h' hg hs => wpAny_pure ⟨cv, rfl, ?_⟩)
  have z := x.upd (o' := .deque vs) ha hs ⟨cws, k + 1, by rw [hg]; simp, hws.mono ((x.obj ha).tup hs)⟩ s.toks
  exact ⟨_, _, z.1, hv.mono z.2, z.2, h⟩
theorem OC.deque_append {a : Addr} {v : V} {vs : List V} {Q : V → AH → Prop} (ha : σ a = some (.deque vs)) (hsz : vs.length ≤ 1000000) (h : Q .none (σ.set a (.deque (vs ++ [v])))) :
    OC C f X ρ (.stat (.builtin "collections.deque.append")) [.ref a, v] [] σ Q := OC.builtin fun F s cargs x r => by
  obtain ⟨_, cv, rfl, r', hv⟩ := r.two; cases r'.refI
  obtain ⟨cvs, k, ho, hr⟩ := x.obj ha
  refine wpAny_call_entry slot_deque_append (x.typeIs ha) entry_deque_append ?_ (args_deque_append _ _)
  unfold Builtin.«collections.deque.append»
  refine wpAny_bind (m := selfAndOne "deque.append" _) (wpAny_pure ?_)
  show wpAny _ _ (Builtin.Deque.pushRight (.ref a) cv >>= fun _ => ret .none) _ _ s
  unfold Builtin.Deque.pushRight
  refine wpAny_bind (wpAny_bind (dq_change ho (by have := hr.length; simp; rw [sizeLine_eq]; omega) fun h' hg hs => wpAny_bind (dq_maxlen (s := { s with heap := h' }) hg (wpAny_pure (wpAny_pure ⟨.none, rfl, ?_⟩)))))
  have tp := (x.obj ha).tup hs
  have z := x.upd (o' := .deque (vs ++ [v])) ha hs ⟨cvs ++ [cv], k + 1, by rw [hg]; simp, (hr.mono tp).append (.cons (hv.mono tp) .nil)⟩ s.toks
  exact ⟨_, _, z.1, .none, z.2, h⟩
theorem OC.deque_appendleft {a : Addr} {v : V} {vs : List V} {Q : V → AH → Prop} (ha : σ a = some (.deque vs)) (hsz : vs.length ≤ 1000000) (h : Q .none (σ.set a (.deque (v :: vs)))) :
    OC C f X ρ (.stat (.builtin "collections.deque.appendleft")) [.ref a, v] [] σ Q := OC.builtin fun F s cargs x r => by
  obtain ⟨_, cv, rfl, r', hv⟩ := r.two; cases r'.refI
  obtain ⟨cvs, k, ho, hr⟩ := x.obj ha
  refine wpAny_call_entry slot_deque_appendleft (x.typeIs ha) entry_deque_appendleft ?_ (args_deque_appendleft _ _)
  unfold Builtin.«collections.deque.appendleft»
  refine wpAny_bind (m := selfAndOne "deque.appendleft" _) (wpAny_pure ?_)
  show wpAny _ _ (Builtin.Deque.pushLeft (.ref a) cv >>= fun _ => ret .none) _ _ s
  unfold Builtin.Deque.pushLeft
  refine wpAny_bind (wpAny_bind (dq_change ho (by have := hr.length; simp; rw [sizeLine_eq]; omega) fun h' hg hs => wpAny_bind (dq_maxlen (s := { s with heap := h' }) hg (wpAny_pure (wpAny_pure ⟨.none, rfl, ?_⟩)))))
  have tp := (x.obj ha).tup hs
  have z := x.upd (o' := .deque (v :: vs)) ha hs ⟨cv :: cvs, k + 1, by rw [hg]; simp, .cons (hv.mono tp) (hr.mono tp)⟩ s.toks
  exact ⟨_, _, z.1, .none, z.2, h⟩
theorem OT.deque {a : Addr} {vs : List V} {Q : Bool → AH → Prop} (ha : σ a = some (.deque vs)) (hsz : vs.length ≤ 1000000) (h : Q (!vs.isEmpty) σ) : OT C f X ρ (.ref a) σ Q := by
  intro F s ca x r
  cases r.refI
  obtain ⟨cvs, k, ho, hr⟩ := x.obj ha
  have hT := x.typeIs ha
  have hne : ((vs.length : Int) != 0) = !vs.isEmpty := by
    cases vs with
    | nil => rfl
    | cons a l => simp only [List.length_cons, List.isEmpty_cons, Bool.not_false, bne_iff_ne, ne_eq]; omega
  have hl := hr.length
  have key : wpAny C.M f.A (runValue (.builtin "len" ⟨[.ref a], []⟩)) (fun r s' => r = .int vs.length (s.toks + 1) ∧ s' = { s with toks := s.toks + 1 + 1 }) (X F) s := by
    refine wpAny_runValue (codeAny_builtin entry_len ?_)
    rw [Around.under_plainId plain_len _]
    refine wpAny_mono (Q := fun fin s' => ∃ r, fin = Fin.done (.ret r) ∧ r = .int vs.length (s.toks + 1) ∧ s' = { s with toks := s.toks + 1 + 1 }) ?_ (fun fin s' h' => by obtain ⟨r, rfl, hq⟩ := h'; exact hq) fun _ _ e => e
    unfold Builtin.«len»
    refine wpAny_bind (m := oneArg "len" _) (wpAny_pure ?_)
    refine wpAny_bind (m := callSpecial? (.ref a) (Str.ofString "__len__")) (wpAny_callSpecial?_slot (name := Str.ofString "__len__") hT slot_deque_len
      (wpAny_call_entry slot_deque_len hT entry_deque_len ?_ (args_deque_len _)))
    show wpAny _ _ (do retInt (← Builtin.Deque.size (.ref a))) _ _ s
    refine wpAny_bind (dq_size ho (wpAny_bind (wpAny_mkInt (wpAny_pure ⟨_, rfl, ?_⟩))))
    rw [← hl]
    refine wpAny_bind (wpAny_holding (wpAny_pure ?_))
    refine wpAny_bind (wpAny_letGo ?_)
    show wpAny _ _ (if ((vs.length : Nat) : Int) < 0 then _ else _) _ _ _
    rw [if_neg (by omega)]
    show wpAny _ _ (if ((vs.length : Nat) : Int) ≥ 2 ^ 63 then _ else _) _ _ _
    rw [if_neg (by omega)]
    exact wpAny_bind (wpAny_mkInt (wpAny_pure ⟨_, rfl, rfl, rfl⟩))
  unfold truthy
  first
    | refine wpAny_bind (wpAny_callSpecial?_none (name := Str.ofString "__bool__") hT deque_no_bool ?_)
    | refine wpAny_bind (wpAny_pure (wpAny_bind (wpAny_callSpecial?_none (name := Str.ofString "__bool__") hT deque_no_bool ?_)))
  first
    | refine wpAny_bind (wpAny_specialOf (name := Str.ofString "__len__") hT slot_deque_len.lookup ?_)
    | refine wpAny_bind (wpAny_pure (wpAny_bind (wpAny_specialOf (name := Str.ofString "__len__") hT slot_deque_len.lookup ?_)))
  refine wpAny_bind (wpAny_mono key (fun r s' h' => ?_) fun _ _ e => e)
  obtain ⟨rfl, rfl⟩ := h'
  refine wpAny_pure ?_
  rw [hne]
  exact ⟨σ, x.toks _, Tup.refl _, h⟩
end
end Mine

namespace Mine

noncomputable def NoX : XT := fun _ _ _ => False

section
variable {C : Cx} {f : Fx} {X : XT} {ρ : Loc} {σ : AH} {d : Nat} {ns : List (PySem.Str × NameKind)}

theorem Cx.inK {F : AH} {s : Shared} (x : St C f ρ F σ s) : C.K.In s.heap := C.X.keeps x.sat.keep

/-- a global name -/
theorem Ev.name_glob {x : PySem.Str} {pos : Pos} {i : Nat} {v : Value} {Q : V → AH → Prop} (ok : f.Ok d ns) (hi : NameAt ns x .globalImplicit i) (e : nsIn C.K mainGlobals x = some (some v)) (h : Q (.stat v) σ)
    (hd : (x == ("__debug__" : PySem.Str)) = false := by decide) : Ev C f X ρ (eval (.Name x pos) f.env) σ Q := fun F s y =>
  Name_function_global ok.kind ((ok.at hi).lookup ok.nd) (loadGlobal_global (mg := C.mg) (by rw [ok.globals]; exact C.g.keeps y.sat.keep) (mg_of C.X C.g e) ⟨_, _, y, .stat, Tup.refl _, h⟩) hd
theorem Ev.name_builtin {x : PySem.Str} {pos : Pos} {i : Nat} {v : Value} {Q : V → AH → Prop} (ok : f.Ok d ns) (hi : NameAt ns x .globalImplicit i) (e : nsIn C.K mainGlobals x = some none)
    (hv : bootBuiltins x = some v) (hn : x ≠ "__name__") (h : Q (.stat v) σ)
    (hd : (x == ("__debug__" : PySem.Str)) = false := by decide) : Ev C f X ρ (eval (.Name x pos) f.env) σ Q := fun F s y =>
  Name_function_global ok.kind ((ok.at hi).lookup ok.nd) (loadGlobal_builtin (mg := C.mg) (mb := C.mb) (by rw [ok.globals]; exact C.g.keeps y.sat.keep) (mg_none_of C.X C.g e)
    (by rw [ok.builtins]; exact C.b.keeps y.sat.keep) ((C.builtins x hn).trans hv) ⟨_, _, y, .stat, Tup.refl _, h⟩) hd

/-- the values of a list of expressions -/
theorem El.nil {Q : List V → AH → Prop} (h : Q [] σ) {pos : Pos} : El C f X ρ (spliced (backTo pos (starEach [] f.env))) σ Q := fun F s x => spliced_nil ⟨[], σ, x, .nil, Tup.refl _, h⟩
noncomputable abbrev kCons (v : V) (Q : List V → AH → Prop) : List V → AH → Prop := fun vs σ₂ => Q (v :: vs) σ₂
noncomputable abbrev kEl (C : Cx) (f : Fx) (X : XT) (ρ : Loc) (es : List Expr) (pos : Pos) (Q : List V → AH → Prop) : V → AH → Prop := fun v σ₁ => El C f X ρ (spliced (backTo pos (starEach es f.env))) σ₁ (kCons v Q)
theorem El.cons {e : Expr} {es : List Expr} {pos : Pos} {Q : List V → AH → Prop}
    (h : Ev C f X ρ (eval e f.env) σ (kEl C f X ρ es pos Q))
    (he : starEach (e :: es) f.env = (false, eval e f.env) :: starEach es f.env := by with_unfolding_all rfl) : El C f X ρ (spliced (backTo pos (starEach (e :: es) f.env))) σ Q := fun F s x => by
  rw [he]
  exact spliced_cons (h.on x fun cv v s₁ σ₁ x₁ r₁ t₁ h₁ => h₁.on x₁ fun cvs vs s₂ σ₂ x₂ r₂ t₂ h₂ => ⟨v :: vs, σ₂, x₂, .cons (r₁.mono t₂) r₂, t₁.trans t₂, h₂⟩)
/-- keywords -/
inductive EkP (C : Cx) (f : Fx) (ρ : Loc) (F : AH) (h : Heap) (ns : List PySem.Str) (Q : List (PySem.Str × V) → AH → Prop) (cvs : List Value) (s' : Shared) : Prop
  | mk (vs : List (PySem.Str × V)) (σ' : AH) (a : St C f ρ F σ' s') (e : vs.map (·.1) = ns) (b : VRs s'.heap (vs.map (·.2)) cvs) (c : Tup h s'.heap) (d : Q vs σ') : EkP C f ρ F h ns Q cvs s'
noncomputable def Ek (C : Cx) (f : Fx) (X : XT) (ρ : Loc) (t : List (Option PySem.Str × Sem Value)) (σ : AH) (Q : List (PySem.Str × V) → AH → Prop) : Prop :=
  t.all (·.1.isSome) = true ∧ ∀ F s, St C f ρ F σ s → wpAny C.M f.A (evalAll (t.map (·.2))) (EkP C f ρ F s.heap (t.filterMap (·.1)) Q) (X F) s
theorem Ek.nil {Q : List (PySem.Str × V) → AH → Prop} {pos : Pos} (h : Q [] σ) : Ek C f X ρ (backToKw pos (keywordEach [] f.env)) σ Q :=
  ⟨rfl, fun F s x => wpAny_evalAll_nil ⟨[], σ, x, rfl, .nil, Tup.refl _, h⟩⟩
noncomputable abbrev kKw (n : PySem.Str) (v : V) (Q : List (PySem.Str × V) → AH → Prop) : List (PySem.Str × V) → AH → Prop := fun vs σ₂ => Q ((n, v) :: vs) σ₂
noncomputable abbrev kEk (C : Cx) (f : Fx) (X : XT) (ρ : Loc) (n : PySem.Str) (ks : List Keyword) (pos : Pos) (Q : List (PySem.Str × V) → AH → Prop) : V → AH → Prop := fun v σ₁ => Ek C f X ρ (backToKw pos (keywordEach ks f.env)) σ₁ (kKw n v Q)
theorem Ek.on {t : List (Option PySem.Str × Sem Value)} {Q : List (PySem.Str × V) → AH → Prop} (h : Ek C f X ρ t σ Q) {F : AH} {s : Shared} {R : List Value → Shared → Prop} (x : St C f ρ F σ s)
    (k : ∀ cvs vs s₁ σ₁, St C f ρ F σ₁ s₁ → vs.map (·.1) = t.filterMap (·.1) → VRs s₁.heap (vs.map (·.2)) cvs → Tup s.heap s₁.heap → Q vs σ₁ → R cvs s₁) : wpAny C.M f.A (evalAll (t.map (·.2))) R (X F) s :=
  wpAny_mono (h.2 F s x) (fun cv s₁ ⟨v, σ₁, a, e, b, c, d⟩ => k cv v s₁ σ₁ a e b c d) fun _ _ e => e
theorem Ek.cons {n : PySem.Str} {e : Expr} {p pos : Pos} {ks : List Keyword} {Q : List (PySem.Str × V) → AH → Prop} (hr : (backToKw pos (keywordEach ks f.env)).all (·.1.isSome) = true)
    (h : Ev C f X ρ (eval e f.env) σ (kEk C f X ρ n ks pos Q)) :
    Ek C f X ρ (backToKw pos (keywordEach (⟨some n, e, p⟩ :: ks) f.env)) σ Q :=
  ⟨(congrArg (true && ·) hr : _), fun F s x => wpAny_evalAll_cons (wpAny_bind (h.on x fun cv v s₁ σ₁ x₁ r₁ t₁ h₁ => wpAny_bind (wpAny_standAt (wpAny_pure
    (h₁.on x₁ fun cvs vs s₂ σ₂ x₂ e₂ r₂ t₂ h₂ => ⟨(n, v) :: vs, σ₂, x₂, congrArg (n :: ·) e₂, .cons (r₁.mono t₂) r₂, t₁.trans t₂, h₂⟩)))))⟩

theorem evalArgs_gen {M : Model} {A : Around} {E : Value → Shared → Prop} {s : Shared} {g : Value} {args : List (Bool × Sem Value)} {keywords : List (Option PySem.Str × Sem Value)} {Q : Args → Shared → Prop}
    (hplain : args.any (·.1) = false) (hall : keywords.all (·.1.isSome) = true)
    (h : wpAny M A (spliced args) (fun vs s₁ => wpAny M A (evalAll (keywords.map (·.2))) (fun ks s₂ => Q ⟨vs, (keywords.filterMap (·.1)).zip ks⟩ s₂) E s₁) E s) : wpAny M A (evalArgs g true args keywords) Q E s := by
  have key : evalArgs g true args keywords = evalArgs g false args keywords := by
    cases args with
    | nil => rfl
    | cons a as =>
      obtain ⟨b, x⟩ := a
      cases b with
      | false => cases as <;> rfl
      | true => simp at hplain
  rw [key]
  unfold evalArgs
  refine wpAny_bind (wpAny_mono h (fun vs s₁ h₁ => wpAny_bind (wpAny_pure ?_)) fun _ _ e => e)
  refine wpAny_holding ?_
  dsimp only
  rw [if_pos hall]
  refine wpAny_bind (wpAny_mono h₁ (fun ks s₂ h₂ => ?_) fun _ _ e => e)
  exact wpAny_bind (wpAny_pure (wpAny_pure h₂))

/-- what may be called without being held by another -/
noncomputable def Keeps (C : Cx) (g : V) : Prop := ∀ (h : Heap) (cg : Value), (∀ b o, C.base.get? b = some o → h.get? b = some o) → VR h g cg → ∃ k, (k = Keeper.frame ∨ k = Keeper.machine ∨ k = Keeper.boundFrame) ∧ Looks C.M h (keeperOf cg) k
theorem Keeps.builtin {id : String} : Keeps C (.stat (.builtin id)) := fun h cg _ r => by cases r.statI; exact ⟨.machine, .inr (.inl rfl), .now⟩
theorem Keeps.type {id : String} : Keeps C (.stat (.type id)) := fun h cg _ r => by cases r.statI; exact ⟨.machine, .inr (.inl rfl), .now⟩
theorem Keeps.ofK {v : Value} (hk : keepIn C.K v = true) : Keeps C (.stat v) := fun h cg k r => by
  cases r.statI
  obtain ⟨k, a, b⟩ := looks_keep (M := C.M) hk (C.X.keeps k)
  exact ⟨k, a.elim .inl (fun e => .inr (.inl e)), b⟩

noncomputable abbrev kOC (C : Cx) (f : Fx) (X : XT) (ρ : Loc) (g : V) (vs : List V) (Q : V → AH → Prop) : List (PySem.Str × V) → AH → Prop := fun kvs σ₂ => OC C f X ρ g vs kvs σ₂ Q
noncomputable abbrev kArgs (C : Cx) (f : Fx) (X : XT) (ρ : Loc) (g : V) (fst : List V) (ks : List Keyword) (pos : Pos) (Q : V → AH → Prop) : List V → AH → Prop := fun vs σ₁ => Ek C f X ρ (backToKw pos (keywordEach ks f.env)) σ₁ (kOC C f X ρ g (fst ++ vs) Q)
noncomputable abbrev kArg0 (C : Cx) (f : Fx) (X : XT) (ρ : Loc) (g : V) (ks : List Keyword) (pos : Pos) (Q : V → AH → Prop) : List V → AH → Prop := fun vs σ₁ => Ek C f X ρ (backToKw pos (keywordEach ks f.env)) σ₁ (kOC C f X ρ g vs Q)
noncomputable abbrev kFn (C : Cx) (f : Fx) (X : XT) (ρ : Loc) (args : List Expr) (ks : List Keyword) (pos : Pos) (Q : V → AH → Prop) : V → AH → Prop := fun g σ₁ => Keeps C g ∧ El C f X ρ (spliced (backTo pos (starEach args f.env))) σ₁ (kArg0 C f X ρ g ks pos Q)
noncomputable abbrev kFnM (C : Cx) (f : Fx) (X : XT) (ρ : Loc) (args : List Expr) (ks : List Keyword) (pos : Pos) (Q : V → AH → Prop) : V → List V → AH → Prop := fun g fst σ₁ => Keeps C g ∧ El C f X ρ (spliced (backTo pos (starEach args f.env))) σ₁ (kArgs C f X ρ g fst ks pos Q)
theorem zip_fst {α β : Type} : ∀ {l : List α} {m : List β}, l.length = m.length → (l.zip m).map (·.1) = l
  | [], _, _ => rfl
  | _ :: _, [], e => nomatch e
  | a :: _, _ :: _, e => congrArg (a :: ·) (zip_fst (Nat.succ.inj e))
theorem zip_snd {α β : Type} : ∀ {l : List α} {m : List β}, l.length = m.length → (l.zip m).map (·.2) = m
  | [], [], _ => rfl
  | [], _ :: _, e => nomatch e
  | _ :: _, [], e => nomatch e
  | _ :: _, b :: _, e => congrArg (b :: ·) (zip_snd (Nat.succ.inj e))
theorem none_of_all {α : Type} {l : List (Option PySem.Str × α)} (h : l.all (·.1.isSome) = true) : l.any (·.1.isNone) = false := by
  induction l with
  | nil => rfl
  | cons a l ih =>
    rw [List.all_cons, Bool.and_eq_true] at h
    rw [List.any_cons, ih h.2, Bool.or_false]
    cases e : a.1 with
    | none => rw [e] at h; cases h.1
    | some => rfl
theorem callWith_rule {pos : Pos} {g : V} {fst : List V} {args : List Expr} {ks : List Keyword} {Q : V → AH → Prop} (hk : Keeps C g) (hplain : (backTo pos (starEach args f.env)).any (·.1) = false)
    (h : El C f X ρ (spliced (backTo pos (starEach args f.env))) σ (kArgs C f X ρ g fst ks pos Q))
    (hall : (backToKw pos (keywordEach ks f.env)).all (·.1.isSome) = true) :
    ∀ F s cg cfst h₀, St C f ρ F σ s → VR s.heap g cg → VRs s.heap fst cfst → Tup h₀ s.heap →
      wpAny C.M f.A (callWith pos cg cfst (backTo pos (starEach args f.env)) (backToKw pos (keywordEach ks f.env))) (EvP C f ρ F h₀ Q) (X F) s := fun F s cg cfst h₀ x hg hf t₀ => by
  generalize backTo pos (starEach args f.env) = ta at *
  have hnone := none_of_all hall
  refine callWith_of (P := fun h' => (∀ b o, C.base.get? b = some o → h'.get? b = some o) ∧ VR h' g cg) (by rw [hplain, hnone]; rfl) (fun h' ph => hk h' cg ph.1 ph.2) ?_
  refine evalArgs_gen hplain hall (h.on x fun cvs vs s₁ σ₁ x₁ r₁ t₁ h₁ => h₁.on x₁ fun kcs kvs s₂ σ₂ x₂ e₂ r₂ t₂ h₂ => ⟨⟨x₂.sat.keep, hg.mono (t₁.trans t₂)⟩, ?_⟩)
  have hl : ((backToKw pos (keywordEach ks f.env)).filterMap (·.1)).length = kcs.length := by rw [← e₂, ← r₂.length, List.length_map, List.length_map]
  exact wpAny_mono (h₂ F s₂ cg (cfst ++ cvs) _ x₂ (hg.mono (t₁.trans t₂)) ((hf.mono (t₁.trans t₂)).append (r₁.mono t₂)) (e₂.trans (zip_fst hl).symm) (by rw [zip_snd hl]; exact r₂)) (fun _ _ e => e.trans (t₀.trans (t₁.trans t₂))) fun _ _ e => e

theorem Ev.call {func : Expr} {args : List Expr} {ks : List Keyword} {pos : Pos} {Q : V → AH → Prop}
    (h : Ev C f X ρ (eval func f.env) σ (kFn C f X ρ args ks pos Q))
    (harm : eval (.Call func args ks pos) f.env = (do callWith pos (← eval func f.env) [] (backTo pos (starEach args f.env)) (backToKw pos (keywordEach ks f.env))) := by with_unfolding_all rfl)
    (hplain : (backTo pos (starEach args f.env)).any (·.1) = false := by with_unfolding_all rfl) (hall : (backToKw pos (keywordEach ks f.env)).all (·.1.isSome) = true := by with_unfolding_all rfl) :
    Ev C f X ρ (eval (.Call func args ks pos) f.env) σ Q := fun F s x => by
  rw [harm]
  exact wpAny_bind (h.on x fun cg g s₁ σ₁ x₁ r₁ t₁ h₁ => callWith_rule (fst := []) h₁.1 hplain h₁.2 hall F s₁ cg [] _ x₁ r₁ .nil t₁)

/-- the method of a value: what is called, and what goes first -/
inductive OMP (C : Cx) (f : Fx) (ρ : Loc) (F : AH) (h : Heap) (Q : V → List V → AH → Prop) (r : Value × List Value) (s' : Shared) : Prop
  | mk (g : V) (fst : List V) (σ' : AH) (a : St C f ρ F σ' s') (b : VR s'.heap g r.1) (b' : VRs s'.heap fst r.2) (c : Tup h s'.heap) (d : Q g fst σ') : OMP C f ρ F h Q r s'
noncomputable def OM (C : Cx) (f : Fx) (X : XT) (ρ : Loc) (name : PySem.Str) (o : V) (σ : AH) (Q : V → List V → AH → Prop) : Prop :=
  ∀ (pl : Sem Bool) F s co, St C f ρ F σ s → VR s.heap o co →
    wpAny C.M f.A (getMethod co name pl) (OMP C f ρ F s.heap Q) (X F) s

noncomputable abbrev kM (C : Cx) (f : Fx) (X : XT) (ρ : Loc) (name : PySem.Str) (args : List Expr) (ks : List Keyword) (pos : Pos) (Q : V → AH → Prop) : V → AH → Prop := fun o σ₀ => OM C f X ρ name o σ₀ (kFnM C f X ρ args ks pos Q)
theorem Ev.method {o : Expr} {name : PySem.Str} {apos pos : Pos} {args : List Expr} {ks : List Keyword} {Q : V → AH → Prop}
    (h : Ev C f X ρ (eval o f.env) σ (kM C f X ρ name args ks pos Q))
    (hbase : attributeBase o name f.env (eval o f.env) = eval o f.env := by with_unfolding_all rfl)
    (hform : methodCallForm (args.length + ks.length) (backTo pos (starEach args f.env)) (backToKw pos (keywordEach ks f.env)) = true := by with_unfolding_all rfl)
    (hline : (apos.endLine == pos.line) = true := by with_unfolding_all rfl)
    (hplain : (backTo pos (starEach args f.env)).any (·.1) = false := by with_unfolding_all rfl) (hall : (backToKw pos (keywordEach ks f.env)).all (·.1.isSome) = true := by with_unfolding_all rfl) :
    Ev C f X ρ (eval (.Call (.Attribute o name apos) args ks pos) f.env) σ Q := fun F s x => by
  rw [arm_eval_Call, hbase]
  refine wpAny_bind (h.on x fun co ov s₁ σ₁ x₁ r₁ t₁ h₁ => wpAny_bind (wpAny_standAt ?_))
  have hpos : methodCallPos true o f.env apos pos = pure pos := by unfold methodCallPos; rw [hline]; rfl
  unfold methodCall
  rw [hform]
  exact wpAny_bind (wpAny_holding (wpAny_mono (h₁ _ F s₁ co x₁ r₁) (fun r s₂ ⟨g, fst, σ₂, x₂, rg, rf, t₂, h₂⟩ =>
    wpAny_bind (wpAny_of_eq hpos (callWith_rule h₂.1 hplain h₂.2 hall F s₂ r.1 r.2 _ x₂ rg rf (t₁.trans t₂)))) fun _ _ e => e))

theorem Ev.attr {o : Expr} {name : PySem.Str} {pos : Pos} {Q : V → AH → Prop}
    (h : Ev C f X ρ (eval o f.env) σ (kO1 C f X ρ (fun co => getAttr co name true) Q))
    (hbase : attributeBase o name f.env (eval o f.env) = eval o f.env := by with_unfolding_all rfl) : Ev C f X ρ (eval (.Attribute o name pos) f.env) σ Q := fun F s x => by
  have harm : eval (.Attribute o name pos) f.env = (do
    let ov ← attributeBase o name f.env (eval o f.env)
    standAt pos.atName
    let r ← holding [ov] (getAttr ov name true)
    letTemporaryGo o ov r
    pure r) := rfl
  rw [harm, hbase]
  exact wpAny_bind (h.on x fun co ov s₁ σ₁ x₁ r₁ t₁ h₁ => wpAny_bind (wpAny_standAt (wpAny_bind (wpAny_holding (wpAny_mono (h₁.up x₁ r₁ t₁) (fun cv s₂ h₂ => wpAny_bind (wpAny_letTemporaryGo (wpAny_pure h₂))) fun _ _ e => e)))))

structure XOk (C : Cx) (f : Fx) (X : XT) : Prop where
  note : ∀ F e s, X F e s → notedBy C.M f.A f.env (X F) e s
  back : ∀ F e s, X F e s → cameBackBy C.M f.A f.env (X F) e s
theorem XOk.no : XOk C f NoX := ⟨fun _ _ _ e => e.elim, fun _ _ _ e => e.elim⟩

noncomputable abbrev kTurn (P : Loc → AH → Prop) (Q : Fl → Loc → AH → Prop) : Fl → Loc → AH → Prop := fun fl ρ₂ σ₂ => match fl with
        | .next => P ρ₂ σ₂
        | .cont => P ρ₂ σ₂
        | .brk => Q .next ρ₂ σ₂
        | .ret v => Q (.ret v) ρ₂ σ₂
noncomputable abbrev kWh (I : Nat → Loc → AH → Prop) (n : Nat) : Loc → AH → Prop := fun ρ₂ σ₂ => ∃ m, m < n ∧ I m ρ₂ σ₂
noncomputable abbrev kLoop (C : Cx) (f : Fx) (X : XT) (ρ : Loc) (body orelse : List Stmt) (P : Loc → AH → Prop) (Q : Fl → Loc → AH → Prop) : Bool → AH → Prop := fun b σ₁ => if b then Ex C f X ρ (execs body f.env) σ₁ (kTurn P Q) else Ex C f X ρ (execs orelse f.env) σ₁ Q
theorem XOk.nt (hX : XOk C f X) {F : AH} {e : Value} {s' : Shared} (h : X F e s') : notedBy C.M f.A f.env (fun e s'' => cameBackBy C.M f.A f.env (X F) e s'') e s' :=
  wpAny_mono (hX.note F _ _ h) (fun _ _ q => hX.back F _ _ q) (fun _ _ q => hX.back F _ _ q)
inductive WhI (C : Cx) (f : Fx) (F : AH) (h : Heap) (I : Nat → Loc → AH → Prop) (k : Nat) (s' : Shared) : Prop
  | mk (ρ' : Loc) (σ' : AH) (a : St C f ρ' F σ' s') (c : Tup h s'.heap) (d : I k ρ' σ') : WhI C f F h I k s'
theorem Ex.while {test : Expr} {body orelse : List Stmt} {pos : Pos} {Q : Fl → Loc → AH → Prop} (hX : XOk C f X) (I : Nat → Loc → AH → Prop)
    (turn : ∀ n ρ' σ', I n ρ' σ' → Et C f X ρ' (isTrue test f.env (eval test f.env)) σ' (kLoop C f X ρ' body orelse (kWh I n) Q))
    (n : Nat) (h : I n ρ σ) : Ex C f X ρ (exec (.While test body orelse pos) f.env) σ Q := fun F s x => by
  refine wpAny_While (codeAny_whileLoop (WhI C f F s.heap I) (fun k s' ⟨ρ', σ', x', t', hI⟩ => ?_) n ⟨ρ, σ, x, Tup.refl _, h⟩)
  refine wpAny_mono (turn k ρ' σ' hI F s' x') (fun b s₁ ⟨σ₁, x₁, t₁, h₁⟩ => ?_) (fun _ _ q => hX.nt q)
  cases b with
  | true =>
    refine wpAny_mono (h₁ F s₁ x₁) (fun fl s₂ ⟨a, ρ₂, σ₂, x₂, r₂, t₂, h₂⟩ => ?_) (fun _ _ q => hX.nt q)
    have tt := (t'.trans t₁).trans t₂
    cases a <;> cases fl <;> first
      | exact r₂.elim
      | exact h₂.elim fun m hm => ⟨m, hm.1, ρ₂, σ₂, x₂, tt, hm.2⟩
      | exact ⟨.next, ρ₂, σ₂, x₂, trivial, tt, h₂⟩
      | exact ⟨.ret _, ρ₂, σ₂, x₂, r₂, tt, h₂⟩
  | false => exact wpAny_mono (h₁ F s₁ x₁) (fun _ _ e => e.trans (t'.trans t₁)) (fun _ _ q => hX.nt q)

/-- an iterator that no loop empties -/
noncomputable def plainIt (o : Obj) : Bool := match o.cls with
  | .type n => !(["enumerate", "zip", "dict_itemiterator", "dict_reverseitemiterator", "odict_iterator", "itertools.zip_longest", "itertools.pairwise"].contains n) && n != "tuple"
  | _ => false
noncomputable def GoOk (M : Model) (target : Expr) : Prop := ∀ (A : Around) (E : Value → Shared → Prop) (s : Shared) (it : Addr) (o : Obj) (v : Value) (Q : Unit → Shared → Prop), s.heap.get? it = some o → plainIt o = true → Q () s → wpAny M A (letOwnedTupleGo target (.ref it) v) Q E s
theorem GoOk.plain {M : Model} {target : Expr} (h : ∀ (v : Value) (it : Addr), letOwnedTupleGo target (.ref it) v = pure ()) : GoOk M target := fun A E s it o v Q _ _ q => by rw [h]; exact wpAny_pure q
theorem GoOk.tup {M : Model} {elts : List Expr} {tk : Nat} {pos : Pos} : GoOk M (.Tuple elts tk pos) := fun A E s it o v Q ho hp q => by
  cases v with
  | ref T =>
    refine wpAny_bind (wpAny_load ho ?_)
    unfold plainIt at hp
    split
    · rename_i n vs e _
      rw [e] at hp
      simp only [Bool.and_eq_true, Bool.not_eq_true'] at hp
      rw [hp.1]
      exact wpAny_pure q
    · exact wpAny_pure q
  | _ => exact wpAny_pure q
/-- an iterator at work -/
structure Iter (C : Cx) (f : Fx) (src : AH → Prop) (items : List V) (h₀ : Heap) (it : Addr) (P : Nat → Obj → Prop) : Prop where
  own : ∀ k o, P k o → plainIt o = true
  next : ∀ (k : Nat) (v : V) (F σ : AH) (ρ : Loc) (s : Shared) (Q : Option Value → Shared → Prop) (E : Value → Shared → Prop), St C f ρ F σ s → F it = some (.any (P k)) → src σ → Tup h₀ s.heap → items[k]? = some v →
    (∀ cv h' tk, VR h' v cv → ObjAt h' it (.any (P (k + 1))) → Heap.SameBut it s.heap h' → Q (some cv) { s with heap := h', toks := tk }) → wpAny C.M f.A (pyNext (.ref it)) Q E s
  done : ∀ (F σ : AH) (ρ : Loc) (s : Shared) (Q : Option Value → Shared → Prop) (E : Value → Shared → Prop), St C f ρ F σ s → F it = some (.any (P items.length)) → src σ → Tup h₀ s.heap →
    (∀ h' tk, Heap.ExtBut it s.heap h' → Q none { s with heap := h', toks := tk }) → wpAny C.M f.A (pyNext (.ref it)) Q E s
/-- what a value gives when it is walked -/
noncomputable def Iters (C : Cx) (f : Fx) (ρ : Loc) (v : V) (σ : AH) (src : AH → Prop) (items : List V) : Prop :=
  ∀ F s cv (Q : Value → Shared → Prop) (E : Value → Shared → Prop), St C f ρ F σ s → VR s.heap v cv →
    (∀ o P tk, P 0 o → o.isFreed = false → Iter C f src items s.heap s.heap.objs.size P → Q (.ref s.heap.objs.size) { s with heap := s.heap.push o, toks := tk }) → wpAny C.M f.A (pyIter cv) Q E s

noncomputable abbrev kBody (C : Cx) (f : Fx) (X : XT) (body : List Stmt) (Q : Fl → Loc → AH → Prop) : Loc → AH → Prop := fun ρ₂ σ₂ => Ex C f X ρ₂ (execs body f.env) σ₂ Q
theorem plainIt_tup {o : Obj} (h : plainIt o = true) : o.cls ≠ .type "tuple" := fun e => by
  unfold plainIt at h
  rw [e, Bool.and_eq_true] at h
  exact absurd h.2 (by decide)
inductive ForI (C : Cx) (f : Fx) (F : AH) (it : Addr) (P : Nat → Obj → Prop) (m : Nat) (h : Heap) (I : Nat → Loc → AH → Prop) (n : Nat) (s' : Shared) : Prop
  | mk (k : Nat) (ρ' : Loc) (σ' : AH) (e : n + k = m) (a : St C f ρ' (F.set it (.any (P k))) σ' s') (c : Tup h s'.heap) (d : I k ρ' σ') : ForI C f F it P m h I n s'
/-- what a loop needs of what it walks -/
inductive ForG (C : Cx) (f : Fx) (X : XT) (target : Expr) (body orelse : List Stmt) (Q : Fl → Loc → AH → Prop) (ρ : Loc) (v : V) (σ : AH) : Prop
  | mk (src : AH → Prop) (items : List V) (it : Iters C f ρ v σ src items) (I : Nat → Loc → AH → Prop) (h0 : I 0 ρ σ) (hst : ∀ k ρ' σ', I k ρ' σ' → src σ')
      (turn : ∀ k v ρ' σ', items[k]? = some v → I k ρ' σ' → AsV C f X ρ' (PySem.assign target f.env) v σ' (kBody C f X body (kTurn (I (k + 1)) Q)))
      (fin : ∀ ρ' σ', I items.length ρ' σ' → Ex C f X ρ' (execs orelse f.env) σ' Q) : ForG C f X target body orelse Q ρ v σ
theorem set_set {τ : AH} {a : Addr} {o p : AO} : (τ.set a o).set a p = τ.set a p := by funext b; unfold AH.set; split <;> rfl
theorem left_pos {n k m : Nat} (hn : n + k = m) (h : k < m) : ∃ j, n = j + 1 := ⟨n - 1, by omega⟩
theorem left_none {n k m : Nat} (hn : n + k = m) (h : m ≤ k) : k = m := by omega
theorem left_next {m k l : Nat} (hn : m + 1 + k = l) : m + (k + 1) = l := by omega
theorem Ex.for_any {target : Expr} {iter : Expr} {body orelse : List Stmt} {pos : Pos} {Q : Fl → Loc → AH → Prop} (hX : XOk C f X) (hXF : ∀ F F' e s, X F e s → X F' e s)
    (h : Ev C f X ρ (eval iter f.env) σ (ForG C f X target body orelse Q ρ)) (hgo : GoOk C.M target)
    (hfold : ∀ x, foldedSetIterable iter f.env x = pure x := by intro _; with_unfolding_all rfl) :
    Ex C f X ρ (exec (.For target iter body orelse pos) f.env) σ Q := fun F s x => by
  refine wpAny_For (h.on x fun cv v s₁ σ₁ x₁ r₁ t₁ h₁ => ?_) hfold
  obtain ⟨src, items, hit, I, h0, hst, turn, fin⟩ := h₁
  refine hit F s₁ cv _ _ x₁ r₁ fun o P tk hP hof hI => ?_
  have hk0 : ∀ b ob, s₁.heap.get? b = some ob → (s₁.heap.push o).get? b = some ob := fun b ob e => Heap.get?_push_of_some _ e
  have fresh0 := (x₁.fresh).2.1
  refine codeAny_forLoop_any (ForI C f F s₁.heap.objs.size P items.length s₁.heap I) (fun n s' ⟨k, ρ', σ', hn, x', t', hI'⟩ => ?_) items.length
    ⟨0, ρ, σ₁, rfl, x₁.newF (o := .any (P 0)) hk0 ⟨o, Heap.get?_push_size _ hof, hP, plainIt_tup (hI.own _ _ hP)⟩ tk, Tup.ext hk0, h0⟩
  generalize s₁.heap.objs.size = it at fresh0 hI x' ⊢
  cases hv : items[k]? with
  | some v =>
    refine hI.next k v _ _ _ s' _ _ x' (AH.set_self ..) (hst _ _ _ hI') t' hv fun cv' h' tk' rv hob hsb => ?_
    have x₃ := (x'.updF (AH.set_self ..) hsb hob tk').1
    have t₃ := (x'.updF (AH.set_self ..) hsb hob tk').2
    rw [set_set] at x₃
    obtain ⟨m, rfl⟩ := left_pos hn (List.getElem?_eq_some_iff.mp hv).1
    obtain ⟨oi, hoi, hoP, _⟩ := hob
    refine hgo _ _ _ it oi cv' _ hoi (hI.own _ _ hoP) ?_
    refine wpAny_mono (turn k v ρ' σ' hv hI' _ _ cv' x₃ rv) (fun _ s₄ ⟨ρ₄, σ₄, x₄, t₄, h₄⟩ => ?_) (fun _ _ q => hX.nt (hXF _ _ _ _ q))
    refine wpAny_mono (h₄ _ s₄ x₄) (fun fl s₅ ⟨a, ρ₅, σ₅, x₅, r₅, t₅, h₅⟩ => ?_) (fun _ _ q => hX.nt (hXF _ _ _ _ q))
    have tt := ((t'.trans t₃).trans t₄).trans t₅
    have dr := (x₅.dropF (F₀ := F) rfl fresh0 (Heap.ExtBut.refl it s₅.heap) s₅.toks).1
    cases a <;> cases fl <;> first
      | exact r₅.elim
      | exact ⟨m, Nat.lt_succ_self _, k + 1, ρ₅, σ₅, left_next hn, x₅, tt, h₅⟩
      | exact ⟨.next, ρ₅, σ₅, dr, trivial, t₁.trans tt, h₅⟩
      | exact ⟨.ret _, ρ₅, σ₅, dr, r₅, t₁.trans tt, h₅⟩
  | none =>
    obtain rfl := left_none hn (List.getElem?_eq_none_iff.mp hv)
    refine hI.done _ _ _ s' _ _ x' (AH.set_self ..) (hst _ _ _ hI') t' fun h' tk' hext => ?_
    have dr := x'.dropF (F₀ := F) rfl fresh0 hext tk'
    exact wpAny_mono (fin ρ' σ' hI' F _ dr.1) (fun _ _ e => e.trans ((t₁.trans t').trans dr.2)) (fun _ _ q => hX.nt q)
theorem Ex.for_gen {target : Expr} {iter : Expr} {body orelse : List Stmt} {pos : Pos} {Q : Fl → Loc → AH → Prop} (hX : XOk C f X) (hXF : ∀ F F' e s, X F e s → X F' e s)
    (h : Ev C f X ρ (eval iter f.env) σ (ForG C f X target body orelse Q ρ))
    (hfold : ∀ x, foldedSetIterable iter f.env x = pure x := by intro _; with_unfolding_all rfl)
    (hown' : ∀ (v : Value) (it : Addr), letOwnedTupleGo target (.ref it) v = pure () := by intros; with_unfolding_all rfl) :
    Ex C f X ρ (exec (.For target iter body orelse pos) f.env) σ Q := Ex.for_any hX hXF h (.plain hown') hfold
theorem Ex.for_listT {elts : List Expr} {tk' : Nat} {tp : Pos} {iter : Expr} {body orelse : List Stmt} {pos : Pos} {Q : Fl → Loc → AH → Prop} (hX : XOk C f X) (hXF : ∀ F F' e s, X F e s → X F' e s)
    (h : Ev C f X ρ (eval iter f.env) σ (ForG C f X (.Tuple elts tk' tp) body orelse Q ρ))
    (hfold : ∀ x, foldedSetIterable iter f.env x = pure x := by intro _; with_unfolding_all rfl) :
    Ex C f X ρ (exec (.For (.Tuple elts tk' tp) iter body orelse pos) f.env) σ Q := Ex.for_any hX hXF h .tup hfold

theorem Iters.list {l : Addr} {vs : List V} (hh : f.A.handled = none) (hl : σ l = some (.list vs)) : Iters C f ρ (.ref l) σ (fun σ' => σ' l = some (.list vs)) vs := fun F s cv Q E x r hq => by
  cases r.refI
  obtain ⟨cvs, n, ho, hr⟩ := x.obj hl
  refine wpAny_pyIter_list (items := List.toArray cvs) ⟨_, ho, rfl, n, rfl⟩ (hq _ (fun k o => o.cls = .type "list_iterator" ∧ o.data = .fields #[.ref l, .int k 0]) s.toks ⟨rfl, rfl⟩ rfl ⟨fun k o h => by unfold plainIt; rw [h.1]; decide, ?_, ?_⟩)
  · intro k v F' σ' ρ' s' Q' E' x' hF hsrc ht hv hq'
    obtain ⟨oi, hoi, ⟨hc, hd⟩, _⟩ := (x'.sat.obj _ _ (x'.atF hF)).1
    obtain ⟨cvs', n', ho', hr'⟩ := x'.obj hsrc
    obtain ⟨cv, hcv, rv⟩ := hr'.get hv
    refine wpAny_pyNext_list_item (l := l) (i := k) (items := List.toArray cvs') (x := cv) ⟨oi, hoi, hc, hd⟩ ⟨_, ho', rfl, n', rfl⟩ (by simpa using hcv) fun h' ⟨o2, g2, c2, d2⟩ hs => ?_
    have tp := (x'.sat.obj _ _ (x'.atF hF)).1.tup hs
    exact hq' cv h' s'.toks (rv.mono tp) ⟨o2, g2, ⟨c2, d2⟩, by rw [c2]; simp⟩ hs
  · intro F' σ' ρ' s' Q' E' x' hF hsrc ht hq'
    obtain ⟨oi, hoi, ⟨hc, hd⟩, _⟩ := (x'.sat.obj _ _ (x'.atF hF)).1
    obtain ⟨cvs', n', ho', hr'⟩ := x'.obj hsrc
    exact wpAny_pyNext_list_end (l := l) (i := vs.length) (items := List.toArray cvs') hh ⟨oi, hoi, hc, hd⟩ ⟨_, ho', rfl, n', rfl⟩ (by simp [hr'.length]) fun h' hs => hq' h' s'.toks hs
end
end Mine

namespace Mine

section
variable {C : Cx} {f : Fx} {X : XT} {ρ : Loc} {σ : AH} {d : Nat} {ns : List (PySem.Str × NameKind)}

theorem binds_at {h : Heap} : ∀ {N : List PySem.Str} {bs : List V} {cs : List Value} {m : PySem.Str → Option Value}, N.Nodup → VRs h bs cs → bs.length ≤ N.length →
    (∀ x cv, ((N.take bs.length).zip cs).reverse.lookup x = some cv → m x = some cv) → LocR h N (bs.map some ++ List.replicate (N.length - bs.length) none) m := by
  intro N bs cs m hn hr hl hm i x v hi hv
  by_cases hlt : i < bs.length
  · rw [List.getElem?_append_left (by simpa using hlt), List.getElem?_map] at hv
    obtain ⟨w, hw, e⟩ := Option.map_eq_some_iff.mp hv
    cases e
    obtain ⟨cv, hcv, rv⟩ := hr.get hw
    refine ⟨cv, hm x cv ?_, rv⟩
    have hz : ((N.take bs.length).zip cs)[i]? = some (x, cv) := by
      rw [List.getElem?_zip_eq_some]
      exact ⟨by rw [List.getElem?_take]; simp [hlt, hi], hcv⟩
    have hmem : (x, cv) ∈ ((N.take bs.length).zip cs).reverse := List.mem_reverse.mpr (List.mem_of_getElem? hz)
    have hnd : ((((N.take bs.length).zip cs).reverse).map (·.1)).Nodup := by
      have h0 : (((N.take bs.length).zip cs).map (·.1)).Nodup := by
        rw [List.map_fst_zip (by have := hr.length; simp; omega)]
        exact hn.sublist (List.take_sublist ..)
      rw [List.map_reverse]
      exact (List.pairwise_reverse.mpr (h0.imp Ne.symm))
    generalize ((N.take bs.length).zip cs).reverse = l at hmem hnd
    induction l with
    | nil => cases hmem
    | cons a l ih =>
      obtain ⟨y, w'⟩ := a
      rw [List.map_cons, List.nodup_cons] at hnd
      rcases List.mem_cons.mp hmem with q | q
      · cases q; simp [List.lookup]
      · have : (x == y) = false := by
          rw [beq_eq_false_iff_ne]; rintro rfl
          exact hnd.1 (List.mem_map.mpr ⟨_, q, rfl⟩)
        rw [List.lookup_cons, this]
        exact ih q hnd.2
  · rw [List.getElem?_append_right (by simp; omega)] at hv
    rw [List.getElem?_replicate] at hv
    split at hv <;> cases hv

/-- how a def binds: these arguments give these values for its first names -/
noncomputable def Binds (C : Cx) (fd : FuncData) (args : List V) (kw : List (PySem.Str × V)) (bs : List V) : Prop :=
  ∀ (A : Around) (E : Value → Shared → Prop) (Q : List (PySem.Str × Value) → Shared → Prop) (s : Shared) cargs ckw, C.K.In s.heap → VRs s.heap args cargs → kw.map (·.1) = ckw.map (·.1) → VRs s.heap (kw.map (·.2)) (ckw.map (·.2)) →
    (∀ cs h', (∀ b o, s.heap.get? b = some o → h'.get? b = some o) → VRs h' bs cs → Q (((fd.scope.names.map (·.1)).take bs.length).zip cs) { s with heap := h' }) → wpAny C.M A (bindArgs fd ⟨cargs, ckw⟩) Q E s

noncomputable def retOf : Fl → V
  | .ret v => v
  | _ => .none

/-- a call, as the machine's own code -/
noncomputable def OCc (C : Cx) (f : Fx) (X : XT) (ρ : Loc) (g : V) (args : List V) (kw : List (PySem.Str × V)) (σ : AH) (Q : V → AH → Prop) : Prop :=
  ∀ F s cg cargs ckw, St C f ρ F σ s → VR s.heap g cg → VRs s.heap args cargs → kw.map (·.1) = ckw.map (·.1) → VRs s.heap (kw.map (·.2)) (ckw.map (·.2)) →
    codeAny C.M f.A (.call cg ⟨cargs, ckw⟩) (fun r s' => match r with | .ok (.ret v) => EvP C f ρ F s.heap Q v s' | .ok _ => False | .error e => X F e s') s
theorem OCc.oc {g : V} {args : List V} {kw : List (PySem.Str × V)} {Q : V → AH → Prop} (h : OCc C f X ρ g args kw σ Q) : OC C f X ρ g args kw σ Q := fun F s cg cargs ckw x a b c e => wpAny_call (h F s cg cargs ckw x a b c e)
noncomputable abbrev kDef (Q : V → AH → Prop) : Fl → Loc → AH → Prop := fun fl _ σ' => Q (retOf fl) σ'
theorem St.enter {F : AH} {s : Shared} {h₁ : Heap} {L : Addr} {env : Env} {A' : Around} {N : List PySem.Str} {bs : Loc} (x : St C f ρ F σ s) (hk : f.env.scope.kind ≠ .module) (hf : f.env.frame = some f.L) (hL : L = s.heap.objs.size) (hl : env.locals = L) (hN : env.scope.names.map (·.1) = N)
    (hkeep : ∀ b o, s.heap.get? b = some o → h₁.get? b = some o) (ho : ObjAt h₁ L (.frame N bs)) (t : Nat) : St C ⟨A', env, f.env :: f.outer⟩ bs (F.set f.L (.frame f.N ρ)) σ { s with heap := h₁, toks := t } := by
  subst hl hN
  obtain ⟨f1, f2, f3⟩ := x.fresh
  rw [← hL] at f1 f2 f3
  have FL : ∀ b, (F.set f.L (.frame f.N ρ)) b = if b = f.L then some (.frame f.N ρ) else F b := fun b => rfl
  refine ⟨⟨f1, ?_, fun a o e => ?_, fun e he => ?_⟩, ?_⟩
  · exact (FL _).trans ((if_neg f3).trans f2)
  · rw [FL] at e
    split at e
    · rename_i q; rw [q]; exact x.dis.l1
    · exact x.dis.l3 a o e
  · rcases List.mem_cons.mp he with q | q
    · subst q
      exact ⟨hk, f.L, f.N, ρ, hf, AH.set_self ..⟩
    · obtain ⟨k, L', N, ρ', e1, e2⟩ := x.dis.fr e q
      exact ⟨k, L', N, ρ', e1, (AH.set_ne _ _ fun q => by rw [q, x.dis.l2] at e2; cases e2).trans e2⟩
  · have hz := x.sat.new (o := .frame (env.scope.names.map (·.1)) bs) (ob := default) hkeep (hL ▸ ho) t
    rw [← hL] at hz
    refine hz.weaken fun a o e => ?_
    unfold tot at e
    unfold AH.set
    split at e
    · rename_i q; rw [if_pos (show a = env.locals from q)]; exact e
    · rename_i q
      rw [if_neg (show ¬ a = env.locals from q)]
      unfold tot
      cases w : σ a with
      | some o' =>
        rw [w] at e
        rw [if_neg (fun q => by rw [q, x.dis.l1] at w; cases w)]
        exact e
      | none =>
        rw [w] at e
        rw [FL] at e
        exact e
theorem St.leave {F σ' : AH} {s s' : Shared} {L : Addr} {env : Env} {A' : Around} {ρ' : Loc} (x : St C f ρ F σ s) (hL : env.locals = s.heap.objs.size)
    (x' : St C ⟨A', env, f.env :: f.outer⟩ ρ' (F.set f.L (.frame f.N ρ)) σ' s') : St C f ρ F σ' s' := by
  have hL' : (F.set f.L (.frame f.N ρ)) f.L = some (.frame f.N ρ) := AH.set_self ..
  have lne : f.L ≠ env.locals := fun q => (x.fresh).2.2 (hL.symm.trans q.symm)
  have h3 := x'.dis.l3
  refine ⟨⟨h3 _ _ hL', x.dis.l2, fun a o e => h3 a o ((AH.set_ne _ _ fun q => by rw [q, x.dis.l2] at e; cases e).trans e), x.dis.fr⟩, x'.sat.weaken fun a o e => ?_⟩
  unfold tot at e ⊢
  split at e
  · rename_i q
    subst q
    rw [if_neg lne, h3 _ _ hL']
    exact hL'.trans e
  · rename_i q
    have hne : a ≠ env.locals := by
      rintro rfl
      rw [show σ' env.locals = none from x'.dis.l1] at e
      rw [hL, x.fresh.2.1] at e; cases e
    rw [if_neg (show ¬ a = _ from hne)]
    cases w : σ' a with
    | some o' => rw [w] at e; exact e
    | none => rw [w] at e; exact (AH.set_ne _ _ q).trans e
/-- how a def binds, objects laid for it -/
noncomputable def BindsE (C : Cx) (fd : FuncData) (args : List V) (kw : List (PySem.Str × V)) (B : List V → Prop) (n : Nat) : Prop :=
  ∀ (A : Around) (E : Value → Shared → Prop) (Q : List (PySem.Str × Value) → Shared → Prop) (s : Shared) cargs ckw, C.K.In s.heap → VRs s.heap args cargs → kw.map (·.1) = ckw.map (·.1) → VRs s.heap (kw.map (·.2)) (ckw.map (·.2)) →
    (∀ bs cs h', B bs → bs.length = n → (∀ b o, s.heap.get? b = some o → h'.get? b = some o) → VRs h' bs cs → Q (((fd.scope.names.map (·.1)).take n).zip cs) { s with heap := h' }) → wpAny C.M A (bindArgs fd ⟨cargs, ckw⟩) Q E s
theorem lookup_of_mem {l : List (PySem.Str × NameKind)} {z : PySem.Str × NameKind} (hl : (l.map (·.1)).Nodup) (hm : z ∈ l) : l.lookup z.1 = some z.2 := by
  induction l with
  | nil => cases hm
  | cons a l ih =>
    rw [List.map_cons, List.nodup_cons] at hl
    rcases List.mem_cons.mp hm with q | q
    · subst q; obtain ⟨z1, z2⟩ := z; simp [List.lookup]
    · obtain ⟨a1, a2⟩ := a
      have : (z.1 == a1) = false := by
        rw [beq_eq_false_iff_ne]; intro q'
        exact hl.1 (List.mem_map.mpr ⟨z, q, q'⟩)
      rw [List.lookup_cons, this]; exact ih hl.2 q
theorem Binds.toE {fd : FuncData} {args : List V} {kw : List (PySem.Str × V)} {bs : List V} (h : Binds C fd args kw bs) : BindsE C fd args kw (· = bs) bs.length := fun A E Q s cargs ckw KI ra rk rkv q => h A E Q s cargs ckw KI ra rk rkv fun cs h' a b => q bs cs h' rfl rfl a b
theorem deeper_depth {a d l : Nat} (h : a + (d + 1) < l) : a + 1 + d < l := by omega
theorem deeper_units {a d l : Nat} (h : a + 4 * (d + 1) + 16 < l) : a + 3 + 4 * d + 16 < l := by omega
theorem codeAny_call_defE {prog : Program} {w : World} {A : Around} {s : Shared} {R : Result → Shared → Prop} {a : Addr} {o : Obj} {fd : FuncData} {body : List Stmt} {args : Args}
    (hroom : A.depth < recursionLimit) (ho : s.heap.get? a = some o) (hdata : o.data = .func fd) (hcd : s.heap.CodeRec fd.code fd.qualname)
    (hbody : fd.body = .stmts body) (hcell : ∀ x ∈ fd.scope.names, x.2 ≠ .cell)
    (h : wpAny (model prog w) A.in1 (bindArgs fd args) (fun binds s₁ => s₁.heap.NoLimit ∧ (∀ x ∈ binds, fd.scope.names.lookup x.1 = some .local) ∧ ∀ h₀, h₀.Ns s₁.heap.objs.size (fun x => binds.reverse.lookup x) → (∀ b o, s₁.heap.get? b = some o → h₀.get? b = some o) →
      wpAny (model prog w) (A.deeper (callEnv fd s₁.heap.objs.size a)) (execs body (callEnv fd s₁.heap.objs.size a)) (fun f s' => R (.ok (.ret (match f with | .ret v => v | _ => .none))) s')
        (fun e s' => wpAny (model prog w) (A.deeper (callEnv fd s₁.heap.objs.size a)) (leaving (callEnv fd s₁.heap.objs.size a) e) (fun _ s'' => R (.error e) s'') (fun e' s'' => R (.error e') s'') s')
        { s₁ with heap := h₀, toks := s₁.toks + binds.length }) (fun e s' => R (.error e) s') s)
    (hco : fd.scope.isCoroutine = false := by rfl) (hgen : fd.scope.isGenerator = false := by rfl) (hk : fd.scope.kind = .function := by rfl) :
    codeAny (model prog w) A (.call (.ref a) args) R s := by
  refine codeAny_call_function hroom ho hdata hco hgen hbody hcd (wpAny_mono h (fun binds s₁ ⟨hlim, hloc, h⟩ => ?_) fun _ _ e => e)
  refine wpAny_newFunctionEnv hcell hloc (fun h₀ hns₀ hsb₀ => ⟨hlim.fresh _ hsb₀, codeAny_func (h h₀ hns₀ fun b o e => ?_)⟩) hk
  exact hsb₀.extBut b o (Nat.ne_of_lt (Heap.lt_size e)) (Heap.get?_push_of_some _ e)

theorem OCc.fnE {fa : Addr} {oc : Value} {od : Option Addr} {osl : Array (Option Value)} {fd : FuncData} {body : List Stmt} {args : List V} {kw : List (PySem.Str × V)} {B : List V → Prop} {n : Nat} {Q : V → AH → Prop}
    (ok : f.Ok (d + 1) ns) (hk : C.K.lookup fa = some ⟨oc, od, .func fd, osl⟩) (hbody : fd.body = .stmts body) (hcode : codeIn C.K fd.code fd.qualname = true)
    (hg : fd.globals = mainGlobals) (hb : fd.builtins = builtinsNs) (hnd : (fd.scope.names.map (·.1)).Nodup)
    (hcell : (fd.scope.names.all fun x => x.2 != .cell) = true) (hpar : ((fd.scope.names.take n).all fun x => x.2 == .local) = true) (hbl : n ≤ fd.scope.names.length) (hdbg : (fd.scope.names.map (·.1)).all (fun x => !(x == ("__debug__" : PySem.Str))) = true)
    (hco : fd.scope.isCoroutine = false) (hgen : fd.scope.isGenerator = false) (hkind : fd.scope.kind = .function)
    (hbind : BindsE C fd args kw B n)
    (h : ∀ (f' : Fx) (bs : List V), B bs → bs.length = n → f'.Ok d fd.scope.names → (f.A.handled = none → f'.A.handled = none) → Ex C f' NoX (bs.map some ++ List.replicate (fd.scope.names.length - bs.length) none) (execs body f'.env) σ (kDef Q)) :
    OCc C f X ρ (.stat (.ref fa)) args kw σ Q := fun F s₀ cg cargs ckw x₀ rg ra rk rkv => by
  cases rg.statI
  have KI := Cx.inK x₀
  refine codeAny_call_defE (body := body) (Nat.lt_of_le_of_lt (Nat.le_add_right _ _) ok.depth) (KI _ _ hk) rfl (codeRec_of KI hcode) hbody (fun y hy => bne_iff_ne.mp (List.all_eq_true.mp hcell y hy)) ?_ hco hgen hkind
  refine hbind _ _ _ s₀ cargs ckw KI ra rk rkv fun bs cs hh hB hn hkeep₀ rcs => ?_
  obtain ⟨x, t0⟩ := x₀.ext hkeep₀ s₀.toks
  subst hn
  refine ⟨C.nolimit.keeps x.sat.keep, fun y hy => ?_, fun h₁ hns hkeep => ?_⟩
  · have hy' : y.1 ∈ (fd.scope.names.map (·.1)).take bs.length := (List.of_mem_zip hy).1
    rw [← List.map_take] at hy'
    obtain ⟨z, hz, e⟩ := List.mem_map.mp hy'
    rw [← e, lookup_of_mem hnd (List.mem_of_mem_take hz), beq_iff_eq.mp (List.all_eq_true.mp hpar z hz)]
  have hst := x.enter (h₁ := h₁) (L := hh.objs.size) (env := callEnv fd hh.objs.size fa) (A' := f.A.deeper (callEnv fd hh.objs.size fa)) (N := fd.scope.names.map (·.1)) (by rw [ok.kind]; decide) ok.frame rfl rfl rfl hkeep
    ⟨_, hns, binds_at (N := fd.scope.names.map (·.1)) (bs := bs) (cs := cs) (m := fun x => List.lookup x (((fd.scope.names.map (·.1)).take bs.length).zip cs).reverse) hnd (rcs.mono (Tup.ext hkeep)) (by rw [List.length_map]; exact hbl) (fun _ _ e => e)⟩ (s₀.toks + (((fd.scope.names.map (·.1)).take bs.length).zip cs).length)
  rw [List.length_map] at hst
  have hok : Fx.Ok d fd.scope.names ⟨f.A.deeper (callEnv fd hh.objs.size fa), callEnv fd hh.objs.size fa, f.env :: f.outer⟩ :=
    ⟨rfl, hkind, hg, hb, rfl, hnd, hdbg, deeper_depth ok.depth, deeper_units ok.units, Around.frames_deeper ok.frames⟩
  refine wpAny_mono (h _ bs hB rfl hok (fun q => q) _ _ hst) (fun fl s' ⟨a, ρ', σ', x', r', t', hq⟩ => ?_) (fun _ _ q => q.elim)
  have back := x.leave (L := 0) rfl x'
  have tt : Tup s₀.heap s'.heap := t0.trans ((Tup.ext hkeep).trans t')
  cases a <;> cases fl <;> first
      | exact r'.elim
      | exact ⟨.none, σ', back, .none, tt, hq⟩
      | exact ⟨_, σ', back, r', tt, hq⟩
end
end Mine

namespace Mine
noncomputable abbrev Es := List (PySem.Str × V)
noncomputable def keysOf (es : Es) : List PySem.Str := es.map (·.1)
/-- the entry of a name -/
inductive EntAt : Es → PySem.Str → V → Nat → Prop
  | head {x v r} : EntAt ((x, v) :: r) x v 0
  | tail {e r x v i} : EntAt r x v i → EntAt (e :: r) x v (i + 1)
theorem EntAt.mem {es : Es} {x : PySem.Str} {v : V} {i : Nat} (h : EntAt es x v i) : x ∈ keysOf es := by
  induction h with
  | head => exact List.mem_cons_self
  | tail _ ih => exact List.mem_cons_of_mem _ ih

section
variable {h : Heap}
theorem ers_find : ∀ {es : Es} {ces : List DictEntry} {x : PySem.Str} {v : V} {i : Nat}, ERs h es ces → EntAt es x v i → (keysOf es).Nodup →
    ∃ e, ces.find? (·.key.isStr x) = some e ∧ VR h v e.val
  | _, _, _, _, _, .cons (x := y) (t := t) (hs := hs) (cv := cv) (ces := ces) r _, .head, _ => ⟨⟨hs, .str y t, cv⟩, by simp [List.find?, Value.isStr], r⟩
  | _, _, x, _, _, .cons (x := y) (t := t) (hs := hs) (cv := cv) (ces := ces) r rs, .tail (i := i) e, hn => by
    have hn' := List.nodup_cons.mp hn
    have : y ≠ x := fun q => hn'.1 (q ▸ e.mem)
    obtain ⟨en, h1, h2⟩ := ers_find rs e hn'.2
    refine ⟨en, ?_, h2⟩
    rw [List.find?_cons]
    have : (Value.isStr (.str y t) x) = false := by simp [Value.isStr, this]
    simp only [this]; exact h1
theorem ers_none : ∀ {es : Es} {ces : List DictEntry} {x : PySem.Str}, ERs h es ces → x ∉ keysOf es → ces.find? (·.key.isStr x) = none
  | _, _, _, .nil, _ => rfl
  | _, _, x, .cons (x := y) (t := t) r rs, hn => by
    have h1 : y ≠ x := fun q => hn (q ▸ List.mem_cons_self)
    rw [List.find?_cons]
    have : (Value.isStr (.str y t) x) = false := by simp [Value.isStr, h1]
    simp only [this]; exact ers_none rs (fun q => hn (List.mem_cons_of_mem _ q))
theorem ers_keys : ∀ {es : Es} {ces : List DictEntry}, ERs h es ces → ces.any (·.refKey) = false
  | _, _, .nil => rfl
  | _, _, .cons r rs => by rw [List.any_cons, ers_keys rs]; rfl
theorem ers_length : ∀ {es : Es} {ces : List DictEntry}, ERs h es ces → es.length = ces.length
  | _, _, .nil => rfl
  | _, _, .cons r rs => by simp [ers_length rs]
theorem ers_set : ∀ {es : Es} {ces : List DictEntry} {x : PySem.Str} {v w : V} {cv : Value} {i : Nat} {hsh : Int} {key : Value}, ERs h es ces → EntAt es x w i → (keysOf es).Nodup → VR h v cv →
    ERs h (es.set i (x, v)) (putL x hsh key cv ces)
  | _, _, _, _, _, _, _, _, _, .cons r rs, .head, _, hv => by
    unfold putL
    simp only [Value.isStr, beq_self_eq_true, if_true]
    exact .cons hv rs
  | _, _, x, _, _, _, _, _, _, .cons (x := y) (t := t) r rs, .tail (i := i) e, hn, hv => by
    have hn' := List.nodup_cons.mp hn
    have h1 : y ≠ x := fun q => hn'.1 (q ▸ e.mem)
    unfold putL
    have : (Value.isStr (.str y t) x) = false := by simp [Value.isStr, h1]
    simp only [this, Bool.false_eq_true, if_false]
    exact .cons r (ers_set rs e hn'.2 hv)
theorem ers_new : ∀ {es : Es} {ces : List DictEntry} {x : PySem.Str} {v : V} {cv : Value} {hsh : Int} {tk : Tok}, ERs h es ces → x ∉ keysOf es → VR h v cv →
    ERs h (es ++ [(x, v)]) (putL x hsh (.str x tk) cv ces)
  | _, _, _, _, _, _, _, .nil, _, hv => .cons hv .nil
  | _, _, x, _, _, _, _, .cons (x := y) (t := t) r rs, hn, hv => by
    have h1 : y ≠ x := fun q => hn (q ▸ List.mem_cons_self)
    unfold putL
    have : (Value.isStr (.str y t) x) = false := by simp [Value.isStr, h1]
    simp only [this, Bool.false_eq_true, if_false]
    exact .cons r (ers_new rs (fun q => hn (List.mem_cons_of_mem _ q)) hv)
theorem putL_length (x : PySem.Str) (hsh : Int) (key v : Value) : ∀ es : List DictEntry, (putL x hsh key v es).length ≤ es.length + 1
  | [] => by simp [putL]
  | e :: r => by
    unfold putL
    split
    · simp
    · simp; exact putL_length x hsh key v r
end

section
variable {C : Cx} {f : Fx} {X : XT} {ρ : Loc} {σ : AH} {d : Nat} {ns : List (PySem.Str × NameKind)}

/-- an instance and its dict -/
theorem St.inst {F : AH} {s : Shared} {x dx Cc : Addr} {es : Es} (y : St C f ρ F σ s) (hx : σ x = some (.inst Cc dx)) (hd : σ dx = some (.dict es)) :
    ∃ ces n, ERs s.heap es ces ∧ s.heap.get? dx = some (dictOf ces n) ∧ W.InstAt s.heap x (instObj Cc dx) Cc (some (dictOf ces n)) := by
  obtain ⟨ces, n, ho, hr⟩ := y.obj hd
  exact ⟨ces, n, hr, ho, ⟨y.obj hx, rfl, rfl, ho⟩⟩

/-- a plain attribute of the instances of a class -/
structure AOwn (C : Cx) (Cc : Addr) (name : PySem.Str) : Prop where
  ga : plainGet C.K Cc name = true
  hd : hasDictIn C.K Cc = true
  attr : ∃ r, findIn C.K (.ref Cc) name = some r ∧ noGet C.K r = true
  sa : findIn C.K (.ref Cc) "__setattr__" = some (some (.builtin "object.__setattr__"))
  over : plainOver C.K Cc = true
  taker : takerIn C.K Cc name = some none

theorem VR.handed {h : Heap} {v : V} {cv : Value} (r : VR h v cv) (hs : ∀ i, v ≠ .stat (.builtin i)) : handedIn cv = true := by
  cases r with
  | stat => cases cv <;> first | rfl | exact absurd rfl (hs _)
  | _ => rfl

theorem O1.attr_own {x dx Cc : Addr} {es : Es} {name : PySem.Str} {v : V} {i : Nat} {e : Bool} {Q : V → AH → Prop} (A : AOwn C Cc name) (hx : σ x = some (.inst Cc dx)) (hd : σ dx = some (.dict es)) (hn : (keysOf es).Nodup) (he : EntAt es name v i)
    (hs : ∀ i, v ≠ .stat (.builtin i)) (h : Q v σ) : O1 C f X ρ (fun co => getAttr co name e) (.ref x) σ Q := fun F s ca y r => by
  cases r.refI
  obtain ⟨ces, n, hr, ho, I⟩ := y.inst hx hd
  obtain ⟨en, hf, rv⟩ := ers_find hr he hn
  obtain ⟨rr, h1, h2⟩ := A.attr
  have hl : lookIn name (dictOf ces n) = some (some en.val) := by rw [lookIn_dict]; unfold getL; rw [hf]
  exact get_value (Cx.inK y) I (plainGet_of A.ga).1 (findObj_own A.hd h1 h2 hl) (rv.handed hs) ⟨v, σ, y.toks _, rv, Tup.refl _, h⟩

/-- a property -/
structure AProp (C : Cx) (Cc : Addr) (name : PySem.Str) (fget : Addr) : Prop where
  ga : plainGet C.K Cc name = true
  cls : (clsIn C.K Cc).isSome = true
  p : ∃ pa rest, findIn C.K (.ref Cc) name = some (some (.ref pa)) ∧ specialIn C.K (.ref pa) "__get__" = some (some (.builtin "property.__get__")) ∧ takesIn C.K (.ref pa) = some true ∧ recIn C.K pa "property" = some (.ref fget :: rest)

/-- a method of a class -/
structure AMeth (C : Cx) (Cc : Addr) (name : PySem.Str) (fa : Addr) : Prop where
  ga : findIn C.K (.ref Cc) "__getattribute__" = some (some (.builtin "object.__getattribute__"))
  gt : findIn C.K (.ref Cc) "__getattr__" = some none
  fn : findIn C.K (.ref Cc) name = some (some (.ref fa))
  ty : typeIn C.K (.ref fa) = some (.type "function")

theorem OM.inst {x dx Cc fa : Addr} {es : Es} {name : PySem.Str} {Q : V → List V → AH → Prop} (A : AMeth C Cc name fa) (hx : σ x = some (.inst Cc dx)) (hd : σ dx = some (.dict es)) (hn : name ∉ keysOf es)
    (h : Q (.stat (.ref fa)) [.ref x] σ) : OM C f X ρ name (.ref x) σ Q := fun pl F s co y r => by
  cases r.refI
  obtain ⟨ces, n, hr, ho, I⟩ := y.inst hx hd
  have hl : shadowIn (some (dictOf ces n)) name = some false := by
    unfold shadowIn
    dsimp only
    rw [lookIn_dict]; unfold getL; rw [ers_none hr hn, ers_keys hr]; rfl
  exact method_fn (Cx.inK y) I A.ga A.gt A.fn A.ty hl ⟨_, _, σ, y, .stat, .cons .ref .nil, Tup.refl _, h⟩

theorem OM.deque {a : Addr} {vs : List V} {name : PySem.Str} {id : String} {Q : V → List V → AH → Prop} (ha : σ a = some (.deque vs)) (slot : Slot "collections.deque" name id) (hty : typeOf (.builtin id) = pure (.type "method_descriptor"))
    (h : Q (.stat (.builtin id)) [.ref a] σ) : OM C f X ρ name (.ref a) σ Q := fun pl F s co y r => by
  cases r.refI
  obtain ⟨cvs, k, ho, _⟩ := y.obj ha
  exact getMethod_builtin (y.typeIs ha) plainAttrs_deque slot hty (fun b e => by cases e; exact ⟨_, ho, rfl⟩) ⟨_, _, σ, y, .stat, .cons .ref .nil, Tup.refl _, h⟩
theorem OM.list {a : Addr} {vs : List V} {name : PySem.Str} {id : String} {Q : V → List V → AH → Prop} (ha : σ a = some (.list vs)) (slot : Slot "list" name id) (hty : typeOf (.builtin id) = pure (.type "method_descriptor"))
    (h : Q (.stat (.builtin id)) [.ref a] σ) : OM C f X ρ name (.ref a) σ Q := fun pl F s co y r => by
  cases r.refI
  obtain ⟨cvs, k, ho, _⟩ := y.obj ha
  exact getMethod_builtin ⟨_, ho, rfl⟩ PySem.F.plainAttrs_list slot hty (fun b e => by cases e; exact ⟨_, ho, rfl⟩) ⟨_, _, σ, y, .stat, .cons .ref .nil, Tup.refl _, h⟩
theorem OM.str {l : List Nat} {name : PySem.Str} {id : String} {Q : V → List V → AH → Prop} (slot : Slot "str" name id) (hty : typeOf (.builtin id) = pure (.type "method_descriptor"))
    (h : Q (.stat (.builtin id)) [.str l] σ) : OM C f X ρ name (.str l) σ Q := fun pl F s co y r => by
  obtain ⟨t, rfl⟩ := r.strI
  exact getMethod_builtin rfl PySem.F.plainAttrs_str slot hty (fun b e => by cases e) ⟨_, _, σ, y, .stat, .cons r .nil, Tup.refl _, h⟩

/-- storing an attribute -/
noncomputable def AS (C : Cx) (f : Fx) (X : XT) (ρ : Loc) (name : PySem.Str) (o v : V) (σ : AH) (Q : AH → Prop) : Prop :=
  ∀ F s co cv, St C f ρ F σ s → VR s.heap o co → VR s.heap v cv → wpAny C.M f.A (setAttr co name cv) (fun _ s' => ∃ σ', St C f ρ F σ' s' ∧ Tup s.heap s'.heap ∧ Q σ') (X F) s

theorem store_run {x dx Cc : Addr} {es es' : Es} {name : PySem.Str} {v : V} {Q : AH → Prop} (A : AOwn C Cc name) (hx : σ x = some (.inst Cc dx)) (hd : σ dx = some (.dict es)) (hsz : es.length ≤ 1000)
    (hes : ∀ (h : Heap) (ces : List DictEntry) (cv : Value) (hsh : Int) (tk : Tok), ERs h es ces → VR h v cv → ERs h es' (putL name hsh (.str name tk) cv ces))
    (h : Q (σ.set dx (.dict es'))) : AS C f X ρ name (.ref x) v σ Q := fun F s co cv y rx rv => by
  cases rx.refI
  obtain ⟨ces, n, hr, ho, I⟩ := y.inst hx hd
  have K1 := Cx.inK y
  refine set_plain K1 I A.sa ?_
  refine osa_open (s := { s with toks := s.toks + 1 }) K1 I A.over A.taker fun b => ?_
  obtain ⟨cd, hc, hd'⟩ := any_some A.hd
  refine wpAny_bind (wpAny_pure (wpAny_bind (wpAny_bind (wpAny_loadPart I.at_ (wpAny_bind (Looks.here (s := { s with toks := s.toks + 1 }) (looks_clsIn K1 hc) ?_))))))
  rw [hd']
  refine wpAny_pure (a := some dx) (wpAny_bind (wpAny_pure (wpAny_bind ?_)))
  unfold nsSet
  refine wpAny_bind (wpAny_bind (wpAny_askSetting (wpAny_pure (wpAny_bind (wpAny_mkText (wpAny_bind (wpAny_loadPart (o := dictOf ces n) ho ?_)))))))
  have c : (!(List.toArray ces).any (·.key.isStr name) && (List.toArray ces).any (·.refKey)) = false := by
    have : (List.toArray ces).any (·.refKey) = false := by
      rw [← Array.any_toList]; exact ers_keys hr
    rw [this, Bool.and_false]
  dsimp only
  rw [aRefKeyMayBeTheName_at, c]
  have hl := ers_length hr
  have e1 : ∀ hsh key, Obj.putName name hsh key cv (dictOf ces n) = dictOf (putL name hsh key cv ces) (putN name ces n) := fun hsh key => putName_dict ..
  have D' : ∀ hsh key, (s.heap.update dx (Obj.putName name hsh key cv)).get? dx = some (dictOf (putL name hsh key cv ces) (putN name ces n)) := fun hsh key => by
    have := Heap.get?_update_self (h := s.heap) (Obj.putName name hsh key cv) ho (by rw [e1]; rfl)
    rw [this, e1]
  have fin : ∀ (hsh : Int) (tk : Tok) (t : Nat), ∃ σ', St C f ρ F σ' { s with heap := s.heap.update dx (Obj.putName name hsh (.str name tk) cv), toks := t } ∧ Tup s.heap (s.heap.update dx (Obj.putName name hsh (.str name tk) cv)) ∧ Q σ' := fun hsh tk t => by
    have hs : Heap.SameBut dx s.heap (s.heap.update dx (Obj.putName name hsh (.str name tk) cv)) := Heap.SameBut.update ..
    have tp := (y.obj hd).tup hs
    have z := y.upd (o' := .dict es') hd hs ⟨_, _, D' _ _, (hes _ _ _ _ _ (hr.mono tp) (rv.mono tp))⟩ t
    exact ⟨_, z.1, z.2, h⟩
  refine wpAny_updatePart ho ?_
  refine wpAny_bind (wpAny_lookBehind (D' _ _) (pastItsLine_dict (by
    rw [List.size_toArray, sizeLine_eq]
    refine Nat.le_trans (putL_length name _ _ cv ces) ?_
    omega)) ?_)
  exact wpAny_pure (fin _ _ _)
theorem AS.own {x dx Cc : Addr} {es : Es} {name : PySem.Str} {v w : V} {i : Nat} {Q : AH → Prop} (A : AOwn C Cc name) (hx : σ x = some (.inst Cc dx)) (hd : σ dx = some (.dict es)) (hsz : es.length ≤ 1000) (hn : (keysOf es).Nodup) (he : EntAt es name w i)
    (h : Q (σ.set dx (.dict (es.set i (name, v))))) : AS C f X ρ name (.ref x) v σ Q :=
  store_run A hx hd hsz (fun _ _ _ _ _ a b => ers_set a he hn b) h
theorem AS.new {x dx Cc : Addr} {es : Es} {name : PySem.Str} {v : V} {Q : AH → Prop} (A : AOwn C Cc name) (hx : σ x = some (.inst Cc dx)) (hd : σ dx = some (.dict es)) (hsz : es.length ≤ 1000) (he : name ∉ keysOf es)
    (h : Q (σ.set dx (.dict (es ++ [(name, v)])))) : AS C f X ρ name (.ref x) v σ Q :=
  store_run A hx hd hsz (fun _ _ _ _ _ a b => ers_new a he b) h

noncomputable abbrev kAS (C : Cx) (f : Fx) (X : XT) (ρ : Loc) (name : PySem.Str) (v : V) (Q : AH → Prop) : V → AH → Prop := fun o σ₁ => AS C f X ρ name o v σ₁ Q
noncomputable abbrev kAS' (C : Cx) (f : Fx) (X : XT) (ρ : Loc) (name : PySem.Str) (o : V) (Q : AH → Prop) : V → AH → Prop := fun v σ₁ => AS C f X ρ name o v σ₁ Q
noncomputable abbrev kAug2 (C : Cx) (f : Fx) (X : XT) (ρ : Loc) (name : PySem.Str) (op : Operator) (value : Expr) (o : V) (Q : AH → Prop) : V → AH → Prop := fun old σ₂ => Ev C f X ρ (eval value f.env) σ₂ (kO2 C f X ρ (inplaceOp op) old (kAS' C f X ρ name o Q))
noncomputable abbrev kAug (C : Cx) (f : Fx) (X : XT) (ρ : Loc) (name : PySem.Str) (op : Operator) (value : Expr) (Q : AH → Prop) : V → AH → Prop := fun o σ₁ => O1 C f X ρ (fun co => getAttr co name true) o σ₁ (kAug2 C f X ρ name op value o Q)
theorem AsV.attr {o : Expr} {name : PySem.Str} {pos : Pos} {v : V} {Q : Loc → AH → Prop}
    (h : Ev C f X ρ (eval o f.env) σ (kAS C f X ρ name v (Q ρ))) : AsV C f X ρ (PySem.assign (.Attribute o name pos) f.env) v σ Q := fun F s cv x r => by
  rw [arm_assign_Attribute]
  refine wpAny_bind (wpAny_holding (wpAny_mono (h F s x) (fun co s₁ ⟨ov, σ₁, x₁, r₁, t₁, h₁⟩ => ?_) fun _ _ e => e))
  refine wpAny_bind (wpAny_standAt (wpAny_bind (wpAny_holding (wpAny_mono (h₁ F s₁ co cv x₁ r₁ (r.mono t₁)) (fun _ s₂ ⟨σ₂, x₂, t₂, h₂⟩ => ?_) fun _ _ e => e))))
  exact wpAny_release ⟨ρ, σ₂, x₂, t₁.trans t₂, h₂⟩

theorem Ex.aug_attr {o value : Expr} {name : PySem.Str} {tpos pos : Pos} {op : Operator} {Q : Fl → Loc → AH → Prop}
    (h : Ev C f X ρ (eval o f.env) σ (kAug C f X ρ name op value (Q .next ρ))) :
    Ex C f X ρ (exec (.AugAssign (.Attribute o name tpos) op value pos) f.env) σ Q := fun F s x =>
  wpAny_AugAssign_AttributeAny (wpAny_mono (h F s x) (fun co s₁ ⟨ov, σ₁, x₁, r₁, t₁, h₁⟩ => wpAny_mono (h₁ F s₁ co x₁ r₁) (fun cold s₂ ⟨old, σ₂, x₂, r₂, t₂, h₂⟩ =>
    wpAny_mono (h₂ F s₂ x₂) (fun cv s₃ ⟨v, σ₃, x₃, r₃, t₃, h₃⟩ => wpAny_mono (h₃ F s₃ cold cv x₃ (r₂.mono t₃) r₃) (fun cn s₄ ⟨nw, σ₄, x₄, r₄, t₄, h₄⟩ =>
      wpAny_mono (h₄ F s₄ co cn x₄ (r₁.mono ((t₂.trans t₃).trans t₄)) r₄) (fun _ s₅ ⟨σ₅, x₅, t₅, h₅⟩ => ⟨.next, ρ, σ₅, x₅, trivial, (((t₁.trans t₂).trans t₃).trans t₄).trans t₅, h₅⟩) fun _ _ e => e)
      fun _ _ e => e) fun _ _ e => e) fun _ _ e => e) fun _ _ e => e)
theorem Ex.aug_name {value : Expr} {x : PySem.Str} {i : Nat} {old : V} {tpos pos : Pos} {op : Operator} {Q : Fl → Loc → AH → Prop} (ok : f.Ok d ns) (hi : NameAt ns x .local i) (hv : ρ[i]? = some (some old))
    (h : Ev C f X ρ (eval value f.env) σ (kO2 C f X ρ (inplaceOp op) old fun new σ₂ => Q .next (ρ.set i (some new)) σ₂)) :
    Ex C f X ρ (exec (.AugAssign (.Name x tpos) op value pos) f.env) σ Q := fun F s y => by
  obtain ⟨m, hm, hr⟩ := y.locals
  obtain ⟨cv, e, r⟩ := hr i x old (ok.at hi).name hv
  refine wpAny_AugAssign_Name (wpAny_loadName_local ok.kind ((ok.at hi).lookup ok.nd) hm e ?_)
  refine wpAny_mono (h F s y) (fun cv₁ s₁ ⟨v, σ₁, x₁, r₁, t₁, h₁⟩ => wpAny_mono (h₁ F s₁ cv cv₁ x₁ (r.mono t₁) r₁) (fun cn s₂ ⟨nw, σ₂, x₂, r₂, t₂, h₂⟩ => ?_) fun _ _ e => e) fun _ _ e => e
  obtain ⟨m', hm', hr'⟩ := x₂.locals
  have hp : (f.env.scope.kind == .class || (f.env.scope.kind == .module && f.env.locals != f.env.globals)) = false := by rw [ok.kind]; rfl
  refine wpAny_storeName_local ((ok.at hi).lookup ok.nd) hm' (fun h' hn hs => ?_) hp
  have z := x₂.store ok.nd (ok.at hi).name r₂ hm' hr' hn hs (s₂.toks + 1)
  exact ⟨.next, _, σ₂, z.1, trivial, (t₁.trans t₂).trans z.2, h₂⟩
end
end Mine

namespace Mine

theorem tx_inj {a b : List Nat} : tx a = tx b ↔ a = b := by
  constructor
  · intro h; have := congrArg (fun s : PySem.Str => s.cps.toList) h; simpa [tx] using this
  · rintro rfl; rfl
theorem tx_beq (a b : List Nat) : (tx a == tx b) = decide (a = b) := by
  rw [Bool.eq_iff_iff]; simp [tx_inj]
theorem tx_append (a b : List Nat) : tx a ++ tx b = tx (a ++ b) := by
  show PySem.Str.append (tx a) (tx b) = _
  first | (simp [PySem.Str.append, tx]; done) | (unfold PySem.Str.append tx; simp)
theorem tx_length (a : List Nat) : (tx a).length = a.length := by simp [tx, PySem.Str.length]

section
variable {C : Cx} {f : Fx} {X : XT} {ρ : Loc} {σ : AH} {d : Nat} {ns : List (PySem.Str × NameKind)}

/-- arithmetic -/
theorem O2.add_int {a b : Int} {Q : V → AH → Prop} (h : Q (.int (a + b)) σ) : O2 C f X ρ (binaryOp .Add) (.int a) (.int b) σ Q := fun F s ca cb x ra rb => by
  obtain ⟨_, rfl⟩ := ra.intI; obtain ⟨_, rfl⟩ := rb.intI
  with_reducible refine PyProof.Rows.add_int ?_
  exact ⟨_, σ, x.toks _, .int, Tup.refl _, h⟩
theorem O2.mod_int {a b : Int} {Q : V → AH → Prop} (hb : b ≠ 0) (h : Q (.int (a.fmod b)) σ) : O2 C f X ρ (binaryOp .Mod) (.int a) (.int b) σ Q := fun F s ca cb x ra rb => by
  obtain ⟨_, rfl⟩ := ra.intI; obtain ⟨_, rfl⟩ := rb.intI
  with_reducible refine PyProof.Rows.mod_int' hb ?_
  exact ⟨_, σ, x.toks _, .int, Tup.refl _, h⟩
theorem O2.div_int {a b : Int} {Q : V → AH → Prop} (hb : b ≠ 0) (hp : Builtin.divisionGoesByPylong a b = false) (h : Q (.int (a.fdiv b)) σ) : O2 C f X ρ (binaryOp .FloorDiv) (.int a) (.int b) σ Q := fun F s ca cb x ra rb => by
  obtain ⟨_, rfl⟩ := ra.intI; obtain ⟨_, rfl⟩ := rb.intI
  with_reducible refine PyProof.Rows.floordiv_int hb ?_ (.inl hp)
  exact ⟨_, σ, x.toks _, .int, Tup.refl _, h⟩
theorem O2.pow_int {a b : Int} {Q : V → AH → Prop} (hb : 0 ≤ b) (hs : (Builtin.Int.intBits a : Int) * b ≤ 2 ^ 27) (h : Q (.int (a ^ b.toNat)) σ) : O2 C f X ρ (binaryOp .Pow) (.int a) (.int b) σ Q := fun F s ca cb x ra rb => by
  obtain ⟨_, rfl⟩ := ra.intI; obtain ⟨_, rfl⟩ := rb.intI
  with_reducible refine PyProof.Rows.pow_int hb hs ?_
  exact ⟨_, σ, x.toks _, .int, Tup.refl _, h⟩
theorem O2.iadd_int {a b : Int} {Q : V → AH → Prop} (h : Q (.int (a + b)) σ) : O2 C f X ρ (inplaceOp .Add) (.int a) (.int b) σ Q := fun F s ca cb x ra rb => by
  obtain ⟨_, rfl⟩ := ra.intI; obtain ⟨_, rfl⟩ := rb.intI
  with_reducible refine PyProof.Rows.iadd_int ?_
  exact ⟨_, σ, x.toks _, .int, Tup.refl _, h⟩
theorem O2.isub_int {a b : Int} {Q : V → AH → Prop} (h : Q (.int (a - b)) σ) : O2 C f X ρ (inplaceOp .Sub) (.int a) (.int b) σ Q := fun F s ca cb x ra rb => by
  obtain ⟨_, rfl⟩ := ra.intI; obtain ⟨_, rfl⟩ := rb.intI
  with_reducible refine PyProof.Rows.isub_int ?_
  exact ⟨_, σ, x.toks _, .int, Tup.refl _, h⟩
theorem O2.add_str {a b : List Nat} {Q : V → AH → Prop} (hz : a.length + b.length ≤ 16777216) (h : Q (.str (a ++ b)) σ) : O2 C f X ρ (binaryOp .Add) (.str a) (.str b) σ Q := fun F s ca cb x ra rb => by
  obtain ⟨_, rfl⟩ := ra.strI; obtain ⟨_, rfl⟩ := rb.strI
  with_reducible refine PyProof.Rows.add_str (fun t k => ?_) (by rw [tx_length, tx_length, sizeLine_eq]; exact hz)
  refine ⟨_, σ, x.toks _, ?_, Tup.refl _, h⟩
  rw [tx_append]; exact .str
theorem O2.iadd_str {a b : List Nat} {Q : V → AH → Prop} (hz : a.length + b.length ≤ 16777216) (h : Q (.str (a ++ b)) σ) : O2 C f X ρ (inplaceOp .Add) (.str a) (.str b) σ Q := fun F s ca cb x ra rb => by
  obtain ⟨_, rfl⟩ := ra.strI; obtain ⟨_, rfl⟩ := rb.strI
  with_reducible refine PyProof.Rows.iadd_str (fun t k => ?_) (by rw [tx_length, tx_length, sizeLine_eq]; exact hz)
  refine ⟨_, σ, x.toks _, ?_, Tup.refl _, h⟩
  rw [tx_append]; exact .str
theorem O1.neg_int {a : Int} {Q : V → AH → Prop} (h : Q (.int (-a)) σ) : O1 C f X ρ (unaryOp .USub) (.int a) σ Q := fun F s ca x ra => by
  obtain ⟨_, rfl⟩ := ra.intI
  with_reducible refine PyProof.Rows.neg_int ?_
  exact ⟨_, σ, x.toks _, .int, Tup.refl _, h⟩
/-- comparisons -/
theorem O2.eq_int {a b : Int} {Q : V → AH → Prop} (h : Q (.bool (a == b)) σ) : O2 C f X ρ (compareOp .Eq) (.int a) (.int b) σ Q := fun F s ca cb x ra rb => by
  obtain ⟨_, rfl⟩ := ra.intI; obtain ⟨_, rfl⟩ := rb.intI
  with_reducible refine PyProof.Rows.eq_int ?_
  exact ⟨_, σ, x, .bool, Tup.refl _, h⟩
theorem O2.ne_int {a b : Int} {Q : V → AH → Prop} (h : Q (.bool (a != b)) σ) : O2 C f X ρ (compareOp .NotEq) (.int a) (.int b) σ Q := fun F s ca cb x ra rb => by
  obtain ⟨_, rfl⟩ := ra.intI; obtain ⟨_, rfl⟩ := rb.intI
  with_reducible refine PyProof.Rows.ne_int ?_
  exact ⟨_, σ, x, .bool, Tup.refl _, h⟩
theorem O2.lt_int {a b : Int} {Q : V → AH → Prop} (h : Q (.bool (decide (a < b))) σ) : O2 C f X ρ (compareOp .Lt) (.int a) (.int b) σ Q := fun F s ca cb x ra rb => by
  obtain ⟨_, rfl⟩ := ra.intI; obtain ⟨_, rfl⟩ := rb.intI
  with_reducible refine PyProof.Rows.lt_int ?_
  exact ⟨_, σ, x, .bool, Tup.refl _, h⟩
theorem O2.gt_int {a b : Int} {Q : V → AH → Prop} (h : Q (.bool (decide (b < a))) σ) : O2 C f X ρ (compareOp .Gt) (.int a) (.int b) σ Q := fun F s ca cb x ra rb => by
  obtain ⟨_, rfl⟩ := ra.intI; obtain ⟨_, rfl⟩ := rb.intI
  with_reducible refine PyProof.Rows.gt_int ?_
  exact ⟨_, σ, x, .bool, Tup.refl _, h⟩
theorem O2.ge_int {a b : Int} {Q : V → AH → Prop} (h : Q (.bool (decide (b ≤ a))) σ) : O2 C f X ρ (compareOp .GtE) (.int a) (.int b) σ Q := fun F s ca cb x ra rb => by
  obtain ⟨_, rfl⟩ := ra.intI; obtain ⟨_, rfl⟩ := rb.intI
  with_reducible refine PyProof.Rows.ge_int ?_
  exact ⟨_, σ, x, .bool, Tup.refl _, h⟩
theorem O2.eq_str {a b : List Nat} {Q : V → AH → Prop} (h : Q (.bool (decide (a = b))) σ) : O2 C f X ρ (compareOp .Eq) (.str a) (.str b) σ Q := fun F s ca cb x ra rb => by
  obtain ⟨_, rfl⟩ := ra.strI; obtain ⟨_, rfl⟩ := rb.strI
  with_reducible refine PyProof.Rows.eq_str ?_
  exact ⟨_, σ, x, by rw [tx_beq]; exact .bool, Tup.refl _, h⟩
theorem O2.ne_str {a b : List Nat} {Q : V → AH → Prop} (h : Q (.bool (!decide (a = b))) σ) : O2 C f X ρ (compareOp .NotEq) (.str a) (.str b) σ Q := fun F s ca cb x ra rb => by
  obtain ⟨_, rfl⟩ := ra.strI; obtain ⟨_, rfl⟩ := rb.strI
  with_reducible refine PyProof.Rows.ne_str ?_
  exact ⟨_, σ, x, by rw [bne, tx_beq]; exact .bool, Tup.refl _, h⟩
/-- is -/
noncomputable def noneV : V → Bool
  | .none => true
  | _ => false
noncomputable def okIs : V → Bool
  | .stat (.type _) => true
  | .stat (.ref _) => true
  | .stat _ => false
  | _ => true
theorem isNone_plain {h : Heap} {a : V} {ca : Value} (ra : VR h a ca) (e : okIs a = true) : PySem.plainIs ca .none = true ∧ (ca == .none) = noneV a := by
  cases ra with
  | stat => cases ca <;> first | exact ⟨rfl, rfl⟩ | cases e
  | _ => exact ⟨rfl, rfl⟩
theorem O2.is_none {a : V} {Q : V → AH → Prop} (e : okIs a = true) (h : Q (.bool (noneV a)) σ) : O2 C f X ρ (compareOp .Is) a .none σ Q := fun F s ca cb x ra rb => by
  cases rb.noneI
  obtain ⟨p, q⟩ := isNone_plain ra e
  with_reducible refine wpAny_is_plain p ?_
  exact ⟨_, σ, x, by rw [q]; exact .bool, Tup.refl _, h⟩
theorem O2.isnot_none {a : V} {Q : V → AH → Prop} (e : okIs a = true) (h : Q (.bool (!noneV a)) σ) : O2 C f X ρ (compareOp .IsNot) a .none σ Q := fun F s ca cb x ra rb => by
  cases rb.noneI
  obtain ⟨p, q⟩ := isNone_plain ra e
  with_reducible refine wpAny_isNot_plain p ?_
  exact ⟨_, σ, x, by rw [q]; exact .bool, Tup.refl _, h⟩
/-- in -/
noncomputable def subS (y x : List Nat) : Bool := !(Builtin.Str.occurrences (tx x) (tx y) 0 (tx x).length 1).isEmpty
theorem subS_one (c : Nat) (x : List Nat) : subS [c] x = x.contains c := by
  unfold subS
  have := StrLaws.found_one (tx x) c
  rw [show tx [c] = ⟨#[c]⟩ from rfl, this]
  rw [Bool.eq_iff_iff]; simp only [tx, List.contains_iff_mem]; exact decide_eq_true_iff
theorem O2.in_str {y x : List Nat} {Q : V → AH → Prop} (h : Q (.bool (subS y x)) σ) : O2 C f X ρ (compareOp .In) (.str y) (.str x) σ Q := fun F s ca cb z ra rb => by
  obtain ⟨_, rfl⟩ := ra.strI; obtain ⟨_, rfl⟩ := rb.strI
  with_reducible refine PyProof.Rows.in_str ?_
  exact ⟨_, σ, z, .bool, Tup.refl _, h⟩
theorem O2.notin_str {y x : List Nat} {Q : V → AH → Prop} (h : Q (.bool (!subS y x)) σ) : O2 C f X ρ (compareOp .NotIn) (.str y) (.str x) σ Q := fun F s ca cb z ra rb => by
  obtain ⟨_, rfl⟩ := ra.strI; obtain ⟨_, rfl⟩ := rb.strI
  with_reducible refine PySem.P.notIn_str ?_
  exact ⟨_, σ, z, .bool, Tup.refl _, h⟩

/-- truth -/
theorem OT.bool {b : Bool} {Q : Bool → AH → Prop} (h : Q b σ) : OT C f X ρ (.bool b) σ Q := fun F s ca x r => by
  cases r.boolI; exact wpAny_truthy_bool ⟨σ, x, Tup.refl _, h⟩
theorem OT.str {l : List Nat} {Q : Bool → AH → Prop} (hz : l.length ≤ 16777216) (h : Q (!l.isEmpty) σ) : OT C f X ρ (.str l) σ Q := fun F s ca x r => by
  obtain ⟨t, rfl⟩ := r.strI
  refine PySem.P.truthy_str (by rw [tx_length]; omega) ⟨σ, x.toks _, Tup.refl _, ?_⟩
  rw [tx_length]
  have : ((l.length : Int) != 0) = !l.isEmpty := by
    cases l with
    | nil => rfl
    | cons a l => simp only [List.length_cons, List.isEmpty_cons, Bool.not_false, bne_iff_ne, ne_eq]; omega
  rw [this]; exact h
end
end Mine

namespace Mine

noncomputable def pslice {α : Type} (l : List α) (lo hi : Option Int) : List α :=
  (l.drop (lo.elim 0 (clipAt l.length))).take (hi.elim l.length (clipAt l.length) - lo.elim 0 (clipAt l.length))
theorem pslice_length_le {α : Type} (l : List α) (lo hi : Option Int) : (pslice l lo hi).length ≤ l.length := by
  unfold pslice; simp; omega
theorem VRs.pslice {h : Heap} {vs : List V} {cvs : List Value} (x : VRs h vs cvs) (lo hi : Option Int) : VRs h (pslice vs lo hi) (Mine.pslice cvs lo hi) := by
  unfold Mine.pslice
  rw [x.length]
  exact (x.drop _).take _
theorem slicePick_p (cvs : List Value) (lo hi : Option Int) : slicePick (List.toArray cvs) lo hi none = List.toArray (pslice cvs lo hi) := by
  rw [slicePick_plain]; simp [pslice]
theorem strSlice_p (l : List Nat) (lo hi : Option Int) : (Builtin.Str.strSliceIndices lo hi 1 l.length).filterMap ((tx l).cps[·]?) = pslice l lo hi := by
  have e : Builtin.Str.strSliceIndices lo hi 1 l.length = sliceRange (lo.elim 0 (clipAt l.length) : Nat) (hi.elim l.length (clipAt l.length) : Nat) 1 := by
    cases lo <;> cases hi <;> simp [Builtin.Str.strSliceIndices, clipAt_cast]
  rw [e, sliceRange_one, pick_run]
  simp [pslice, tx]
theorem strSlice_whole (l : List Nat) (lo hi : Option Int) (h : (Builtin.Str.strSliceIndices lo hi 1 l.length).length = l.length) : pslice l lo hi = l := by
  have e : Builtin.Str.strSliceIndices lo hi 1 l.length = sliceRange (lo.elim 0 (clipAt l.length) : Nat) (hi.elim l.length (clipAt l.length) : Nat) 1 := by
    cases lo <;> cases hi <;> simp [Builtin.Str.strSliceIndices, clipAt_cast]
  rw [e, sliceRange_one] at h
  simp at h
  have h1 : lo.elim 0 (clipAt l.length) ≤ l.length := by
    cases lo with
    | none => simp
    | some i => simp [clipAt]; omega
  have h2 : hi.elim l.length (clipAt l.length) ≤ l.length := by
    cases hi with
    | none => simp
    | some i => simp [clipAt]; omega
  unfold pslice
  by_cases hl : l.length = 0
  · have : l = [] := List.eq_nil_of_length_eq_zero hl
    subst this; simp
  · have a0 : lo.elim 0 (clipAt l.length) = 0 := by omega
    have b0 : hi.elim l.length (clipAt l.length) = l.length := by omega
    rw [a0, b0]; simp

section
variable {C : Cx} {f : Fx} {X : XT} {ρ : Loc} {σ : AH} {d : Nat} {ns : List (PySem.Str × NameKind)}

/-- displays -/
noncomputable abbrev kTup (Q : V → AH → Prop) : List V → AH → Prop := fun vs σ₁ => vs.length ≤ 16777216 ∧ Q (.tup vs) σ₁
theorem Ev.tuple {es : List Expr} {k : Nat} {pos : Pos} {Q : V → AH → Prop} (h : El C f X ρ (spliced (backTo pos (starEach es f.env))) σ (kTup Q)) :
    Ev C f X ρ (eval (.Tuple es k pos) f.env) σ Q := fun F s x => by
  refine PyProof.Rows.Tuple_ (wpAny_mono (h F s x) (fun cvs s₁ ⟨vs, σ₁, x₁, r₁, t₁, hz, h₁⟩ => ?_) fun _ _ e => e)
  have hk : ∀ b o, s₁.heap.get? b = some o → (s₁.heap.push { cls := .type "tuple", data := .seq (List.toArray cvs) }).get? b = some o := fun b o e => Heap.get?_push_of_some _ e
  have z := x₁.ext hk s₁.toks
  refine wpAny_newTuple ⟨.tup vs, σ₁, z.1, ?_, t₁.trans z.2, h₁⟩ (by have := r₁.length; rw [sizeLine_eq]; omega)
  exact .tup ⟨_, Heap.get?_push_size _ rfl, rfl, 0, rfl⟩ (r₁.mono z.2)
theorem Ev.list {es : List Expr} {pos : Pos} {Q : V → AH → Prop} (h : El C f X ρ (spliced (backTo pos (starEach es f.env))) σ fun vs σ₁ => vs.length ≤ 16777216 ∧ ∀ a, σ₁ a = none → Q (.ref a) (σ₁.set a (.list vs))) :
    Ev C f X ρ (eval (.List es pos) f.env) σ Q := fun F s x => by
  refine PyProof.Rows.List_ (wpAny_mono (h F s x) (fun cvs s₁ ⟨vs, σ₁, x₁, r₁, t₁, hz, h₁⟩ => ?_) fun _ _ e => e)
  have hk : ∀ b o, s₁.heap.get? b = some o → (s₁.heap.push { cls := .type "list", data := .seq (List.toArray cvs) }).get? b = some o := fun b o e => Heap.get?_push_of_some _ e
  have z := x₁.new (o := .list vs) hk ⟨cvs, 0, Heap.get?_push_size _ rfl, r₁.mono (Tup.ext hk)⟩ s₁.toks
  exact wpAny_newList ⟨.ref _, _, z.1, .ref, t₁.trans z.2, h₁ _ x₁.fresh.1⟩ (by have := r₁.length; rw [sizeLine_eq]; omega)

/-- subscripts -/
noncomputable def OS (C : Cx) (f : Fx) (X : XT) (ρ : Loc) (value slice : Expr) (o i : V) (σ : AH) (Q : V → AH → Prop) : Prop :=
  ∀ F s co ci, St C f ρ F σ s → VR s.heap o co → VR s.heap i ci → wpAny C.M f.A (subscriptTail value slice co ci) (EvP C f ρ F s.heap Q) (X F) s
noncomputable abbrev kOS (C : Cx) (f : Fx) (X : XT) (ρ : Loc) (value slice : Expr) (o : V) (Q : V → AH → Prop) : V → AH → Prop := fun i σ₂ => OS C f X ρ value slice o i σ₂ Q
noncomputable abbrev kSub (C : Cx) (f : Fx) (X : XT) (ρ : Loc) (value slice : Expr) (Q : V → AH → Prop) : V → AH → Prop := fun o σ₁ => Ev C f X ρ (eval slice f.env) σ₁ (kOS C f X ρ value slice o Q)
theorem Ev.subscript {value slice : Expr} {pos : Pos} {Q : V → AH → Prop}
    (h : Ev C f X ρ (eval value f.env) σ (kSub C f X ρ value slice Q)) : Ev C f X ρ (eval (.Subscript value slice pos) f.env) σ Q :=
  fun F s x => PyProof.Rows.Subscript_ (wpAny_mono (h F s x) (fun co s₁ ⟨o, σ₁, x₁, r₁, t₁, h₁⟩ => wpAny_mono (h₁ F s₁ x₁) (fun ci s₂ ⟨i, σ₂, x₂, r₂, t₂, h₂⟩ =>
    wpAny_mono (h₂ F s₂ co ci x₂ (r₁.mono t₂) r₂) (fun _ _ e => e.trans (t₁.trans t₂)) fun _ _ e => e) fun _ _ e => e) fun _ _ e => e)
noncomputable def idx (i : Int) (n : Nat) : Nat := (if i < 0 then i + n else i).toNat
theorem OS.list {value slice : Expr} {l : Addr} {vs : List V} {i : Int} {v : V} {Q : V → AH → Prop} (hl : σ l = some (.list vs)) (hlen : vs.length ≤ 16777216) (h0 : -(vs.length : Int) ≤ i) (h1 : i < vs.length) (hv : vs[idx i vs.length]? = some v) (h : Q v σ)
    (hs : ∀ o i, subscripted slice false o i = operate [o, i] (getItem o i) := by intros; with_unfolding_all rfl) : OS C f X ρ value slice (.ref l) (.int i) σ Q := fun F s co ci x ro ri => by
  cases ro.refI; obtain ⟨t, rfl⟩ := ri.intI
  obtain ⟨cvs, n, ho, hr⟩ := x.obj hl
  obtain ⟨cv, hcv, rv⟩ := hr.get hv
  have hlc := hr.length
  refine tail_any (T := "list") ⟨_, ho, rfl⟩ slot_list_getitem.lookup ?_ (hs _ _)
  by_cases hneg : i < 0
  · refine wpAny_getItem_list_neg (items := List.toArray cvs) (x := cv) ⟨_, ho, rfl, n, rfl⟩ hneg (by simp; omega) (by omega) ?_ ⟨v, σ, x, rv, Tup.refl _, h⟩
    have : (i + ((List.toArray cvs).size : Int)).toNat = idx i vs.length := by unfold idx; rw [if_pos hneg]; simp [hlc]
    rw [this]; simpa using hcv
  · refine wpAny_getItem_list (items := List.toArray cvs) (x := cv) ⟨_, ho, rfl, n, rfl⟩ (by omega) (by omega) ?_ ⟨v, σ, x, rv, Tup.refl _, h⟩
    have : i.toNat = idx i vs.length := by unfold idx; rw [if_neg hneg]
    rw [this]; simpa using hcv
/-- slices -/
inductive IsP : V → Option Int → Prop
  | none : IsP .none none
  | int {i : Int} : IsP (.int i) (some i)
noncomputable def Ep (C : Cx) (f : Fx) (X : XT) (ρ : Loc) (e : Option Expr) (σ : AH) (Q : Option Int → AH → Prop) : Prop :=
  ∀ F s, St C f ρ F σ s → wpAny C.M f.A (evalPart e f.env) (fun cv s' => ∃ p σ', St C f ρ F σ' s' ∧ ((p = none ∧ cv = .none) ∨ ∃ i t, p = some i ∧ cv = .int i t) ∧ Tup s.heap s'.heap ∧ Q p σ') (X F) s
theorem Ep.none {Q : Option Int → AH → Prop} (h : Q none σ) : Ep C f X ρ none σ Q := fun F s x => wpAny_evalPart_none ⟨_, σ, x, .inl ⟨rfl, rfl⟩, Tup.refl _, h⟩
noncomputable abbrev kInt (Q : Option Int → AH → Prop) : V → AH → Prop := fun v σ₁ => ∃ i, v = .int i ∧ Q (some i) σ₁
theorem Ep.some {e : Expr} {Q : Option Int → AH → Prop} (h : Ev C f X ρ (eval e f.env) σ (kInt Q)) : Ep C f X ρ (some e) σ Q := fun F s x =>
  wpAny_evalPart_some (wpAny_mono (h F s x) (fun cv s₁ ⟨v, σ₁, x₁, r₁, t₁, i, hv, h₁⟩ => by
    subst hv; obtain ⟨t, rfl⟩ := r₁.intI
    exact ⟨_, σ₁, x₁, .inr ⟨i, t, rfl, rfl⟩, t₁, h₁⟩) fun _ _ e => e)
noncomputable abbrev sliceObj (cl cu : Value) : Obj := { cls := .type "slice", data := .fields #[cl, cu, .none] }
/-- a slice is taken of a value -/
noncomputable def SlOp (C : Cx) (f : Fx) (X : XT) (ρ : Loc) (o : V) (lo hi : Option Int) (σ : AH) (Q : V → AH → Prop) : Prop :=
  ∀ (value slice : Expr) F s co sl cl cu h₀, (∀ co ci : Value, subscripted slice false co ci = operate [ci, co] (getItem co ci)) → St C f ρ F σ s → VR s.heap o co → s.heap.get? sl = some (sliceObj cl cu) → ((lo = none ∧ cl = .none) ∨ ∃ i t, lo = some i ∧ cl = .int i t) → ((hi = none ∧ cu = .none) ∨ ∃ i t, hi = some i ∧ cu = .int i t) → Tup h₀ s.heap →
    wpAny C.M f.A (subscriptTail value slice co (.ref sl)) (EvP C f ρ F h₀ Q) (X F) s
theorem Ev.slice_any {value : Expr} {lower upper : Option Expr} {p pos : Pos} {Q : V → AH → Prop} {P : V → Option Int → Option Int → AH → Prop} (hP : ∀ o lo hi σ, P o lo hi σ → SlOp C f X ρ o lo hi σ Q)
    (h : Ev C f X ρ (eval value f.env) σ fun o σ₁ => Ep C f X ρ lower σ₁ fun lo σ₂ => Ep C f X ρ upper σ₂ fun hi σ₃ => P o lo hi σ₃) : Ev C f X ρ (eval (.Subscript value (.Slice lower upper none p) pos) f.env) σ Q := fun F s x =>
  PyProof.Rows.Subscript_ (h.on x fun co o s₁ σ₁ x₁ r₁ t₁ h₁ => wpAny_Slice (wpAny_mono (h₁ F s₁ x₁) (fun cl s₂ ⟨lo, σ₂, x₂, e₂, t₂, h₂⟩ => wpAny_mono (h₂ F s₂ x₂) (fun cu s₃ ⟨hi, σ₃, x₃, e₃, t₃, h₃⟩ => wpAny_evalPart_none (by
    have hk : ∀ b ob, s₃.heap.get? b = some ob → (s₃.heap.push (sliceObj cl cu)).get? b = some ob := fun b ob e => Heap.get?_push_of_some _ e
    have z := x₃.ext hk s₃.toks
    exact hP _ _ _ _ h₃ value _ F _ co _ cl cu _ (fun _ _ => by with_unfolding_all rfl) z.1 (r₁.mono ((t₂.trans t₃).trans z.2)) (Heap.get?_push_size _ rfl) e₂ e₃ (((t₁.trans t₂).trans t₃).trans z.2))) fun _ _ e => e) fun _ _ e => e))
theorem part_of {lo : Option Int} {cl : Value} (e : (lo = none ∧ cl = .none) ∨ ∃ i t, lo = some i ∧ cl = .int i t) : IsPart cl lo := by rcases e with ⟨rfl, rfl⟩ | ⟨i, t, rfl, rfl⟩ <;> constructor
theorem part_val {lo : Option Int} {cl : Value} (e : (lo = none ∧ cl = .none) ∨ ∃ i t, lo = some i ∧ cl = .int i t) : ∃ lo' : Option (Int × Tok), cl = partValue lo' ∧ lo'.map (·.1) = lo := by
  rcases e with ⟨rfl, rfl⟩ | ⟨i, t, rfl, rfl⟩
  · exact ⟨none, rfl, rfl⟩
  · exact ⟨some (i, t), rfl, rfl⟩
theorem pslice_size {α : Type} {l : List α} {lo hi : Option Int} (h : l.length ≤ 16777216) : (pslice l lo hi).length ≤ 16777216 := Nat.le_trans (pslice_length_le _ _ _) h
/-- of a list, wherever it lies -/
theorem slice_list {value slice : Expr} {F : AH} {s : Shared} {l sl : Addr} {vs : List V} {cvs : List Value} {n : Nat} {ob : Obj} {cl cu : Value} {lo hi : Option Int} {h₀ : Heap} {Q : V → AH → Prop} (hsub : ∀ co ci : Value, subscripted slice false co ci = operate [ci, co] (getItem co ci)) (x : St C f ρ F σ s)
    (ho : s.heap.get? l = some ob) (hc : ob.cls = .type "list") (hd : ob.data = .seq (List.toArray cvs) n) (hr : VRs s.heap vs cvs) (hz : vs.length ≤ 16777216) (hs : s.heap.get? sl = some (sliceObj cl cu)) (pl : IsPart cl lo) (pu : IsPart cu hi) (tt : Tup h₀ s.heap)
    (hq : ∀ a, σ a = none → Q (.ref a) (σ.set a (.list (pslice vs lo hi)))) : wpAny C.M f.A (subscriptTail value slice (.ref l) (.ref sl)) (EvP C f ρ F h₀ Q) (X F) s := by
  refine tail_any (T := "list") ⟨_, ho, hc⟩ slot_list_getitem.lookup ?_ (hsub _ _)
  refine wpAny_getItem_list_slice (items := List.toArray cvs) ⟨_, ho, hc, n, hd⟩ ⟨_, hs, rfl, rfl⟩ pl pu .none (by simp) ?_ (by rw [List.size_toArray, ← hr.length]; exact hz)
  rw [slicePick_p]
  have hk2 : ∀ b ob, s.heap.get? b = some ob → (s.heap.push { cls := .type "list", data := .seq (List.toArray (pslice cvs lo hi)) }).get? b = some ob := fun b ob e => Heap.get?_push_of_some _ e
  have z2 := x.new (o := .list (pslice vs lo hi)) hk2 ⟨_, 0, Heap.get?_push_size _ rfl, (hr.mono (Tup.ext hk2)).pslice lo hi⟩ s.toks
  exact ⟨.ref _, _, z2.1, .ref, tt.trans z2.2, hq _ x.fresh.1⟩
theorem SlOp.list {l : Addr} {vs : List V} {lo hi : Option Int} {Q : V → AH → Prop} (hl : σ l = some (.list vs)) (hz : vs.length ≤ 16777216) (hq : ∀ a, σ a = none → Q (.ref a) (σ.set a (.list (pslice vs lo hi)))) : SlOp C f X ρ (.ref l) lo hi σ Q :=
  fun value slice F s co sl cl cu h₀ hsub x r hs e₂ e₃ tt => by
  cases r.refI
  obtain ⟨cvs, n, ho, hr⟩ := x.obj hl
  exact slice_list hsub x ho rfl rfl hr hz hs (part_of e₂) (part_of e₃) tt hq
theorem SlOp.str {l : List Nat} {lo hi : Option Int} {Q : V → AH → Prop} (hz : l.length ≤ 16777216) (hq : Q (.str (pslice l lo hi)) σ) : SlOp C f X ρ (.str l) lo hi σ Q :=
  fun value slice F s co sl cl cu h₀ hsub x r hs e₂ e₃ tt => by
  obtain ⟨t, rfl⟩ := r.strI
  refine tail_any (T := "str") rfl PySem.F.slot_str_getitem.lookup ?_ (hsub _ _)
  obtain ⟨lo', hlo, hlo'⟩ := part_val e₂
  obtain ⟨hi', hhi, hhi'⟩ := part_val e₃
  subst hlo hhi
  refine wpAny_getItem_str_slice (l := lo') (u := hi') (st := none) ⟨_, hs, rfl, rfl⟩ rfl ?_
  unfold sliceMade slicePicked
  rw [hlo', hhi', tx_length]
  have e1 : (Builtin.Str.strSliceIndices lo hi ((Option.map (fun x : Int × Tok => x.fst) none).getD 1) l.length).filterMap ((tx l).cps[·]?) = pslice l lo hi := strSlice_p l lo hi
  refine post_val_or_str ⟨?_, fun t' k => ?_⟩
  · split
    · rw [tx_length, sizeLine_eq]; exact hz
    · rw [e1]; show (tx (pslice l lo hi)).length ≤ _; rw [tx_length, sizeLine_eq]; exact Nat.le_trans (pslice_length_le ..) hz
  · refine ⟨.str (pslice l lo hi), σ, x.toks k, ?_, tt, hq⟩
    split
    · rename_i hc
      have : pslice l lo hi = l := strSlice_whole l lo hi (by simpa using hc)
      rw [this]; exact .str
    · rw [e1]; exact .str
end
end Mine

namespace Mine

noncomputable abbrev lsObj (cvs : List Value) (n : Nat) : Obj := ⟨.type "list", none, .seq (List.toArray cvs) n, #[]⟩

section
variable {C : Cx} {f : Fx} {X : XT} {ρ : Loc} {σ : AH} {d : Nat} {ns : List (PySem.Str × NameKind)}

/-- a list turned in place -/
theorem St.seqUpd {F : AH} {s : Shared} {l : Addr} {vs vs' : List V} {cvs cvs' : List Value} {n : Nat} {g : Array Value → Array Value} (x : St C f ρ F σ s) (hl : σ l = some (.list vs)) (ho : s.heap.get? l = some (lsObj cvs n))
    (hg : g (List.toArray cvs) = List.toArray cvs') (hr : VRs s.heap vs' cvs') (t : Nat) :
    St C f ρ F (σ.set l (.list vs')) { s with heap := s.heap.update l (Obj.mapSeq g), toks := t } ∧ Tup s.heap (s.heap.update l (Obj.mapSeq g)) := by
  have hs : Heap.SameBut l s.heap (s.heap.update l (Obj.mapSeq g)) := Heap.SameBut.update ..
  have tp := (x.obj hl).tup hs
  have e : ∃ n', (s.heap.update l (Obj.mapSeq g)).get? l = some (lsObj cvs' n') := by
    have := Heap.get?_update_self (h := s.heap) (Obj.mapSeq g) ho (by simp only [Obj.mapSeq]; rfl)
    rw [this]
    simp only [Obj.mapSeq, hg]
    exact ⟨_, rfl⟩
  obtain ⟨n', e⟩ := e
  exact x.upd (o' := .list vs') hl hs ⟨cvs', n', e, hr.mono tp⟩ t

theorem OC.append {l : Addr} {v : V} {vs : List V} {Q : V → AH → Prop} (hl : σ l = some (.list vs)) (hz : vs.length ≤ 16777215) (h : Q .none (σ.set l (.list (vs ++ [v])))) :
    OC C f X ρ (.stat (.builtin "list.append")) [.ref l, v] [] σ Q := OC.builtin fun F s cargs x r => by
  obtain ⟨_, cv, rfl, r', hv⟩ := r.two; cases r'.refI
  obtain ⟨cvs, n, ho, hr⟩ := x.obj hl
  have z := x.seqUpd (g := fun a => a.push cv) (vs' := vs ++ [v]) (cvs' := cvs ++ [cv]) hl ho (by simp) (hr.append (.cons hv .nil)) s.toks
  exact call_meets PySem.F.slot_list_append ⟨_, ho, rfl⟩ PySem.F.entry_list_append (PySem.F.args_list_append_2 _ _)
    (AutoListH.list_append_list_val_0 l (List.toArray cvs) n cv (by have := hr.length; rw [sizeLine_eq]; simp; omega)) ⟨ho, .none, _, z.1, .none, z.2, h⟩

theorem pop_meets (l : Addr) (cvs : List Value) (n : Nat) (x : Int) (u : Tok) (k : Nat) (cv : Value) (hfit : -(2 ^ 63 : Int) ≤ x ∧ x < 2 ^ 63) (hne : cvs ≠ []) (hk : seqIndex? x cvs.length = some k) (hv : cvs[k]? = some cv) (hsz : cvs.length ≤ sizeLine) :
    Meets (Builtin.«list.pop» ⟨[.ref l, .int x u], []⟩) (fun _ R s => s.heap.get? l = some (lsObj cvs n) ∧ R (.ok (.ret cv)) { s with heap := s.heap.update l (Obj.mapSeq fun xs => xs.eraseIdxIfInBounds k), toks := s.toks }) :=
  fun prog w A R s ⟨ho, h⟩ => by
    unfold Builtin.«list.pop»
    refine wpAny_bind (m := selfAndSome "list.pop" "pop" 0 1 _) (wpAny_pure ?_)
    refine wpAny_bind (wpAny_of_eq (t := asIndex (.int x u)) (a := x) (by rfl) ?_)
    have hf : (!Builtin.List.listFitsIndex x) = false := by simp [Builtin.List.listFitsIndex]; omega
    simp only [hf, Bool.false_eq_true, if_false]
    refine wpAny_bind (m := Builtin.List.listItems (.ref l)) ?_
    unfold Builtin.List.listItems
    refine wpAny_bind (wpAny_seqItems ho rfl ?_)
    dsimp only
    refine wpAny_pure ?_
    have he : (List.toArray cvs).isEmpty = false := by cases cvs <;> simp_all
    simp only [he, Bool.false_eq_true, if_false]
    have hm : ((seqIndex? x (List.toArray cvs).size).bind fun k => (List.toArray cvs)[k]?.map (k, ·)) = some (k, cv) := by
      simp only [List.size_toArray, hk, Option.bind_some]
      simp [hv]
    rw [hm]
    dsimp only
    refine wpAny_bind (m := Builtin.List.listUpdate (.ref l) _) ?_
    unfold Builtin.List.listUpdate
    refine wpAny_updateSeq ho rfl (wpAny_pure h) (by simpa using hsz) ?_
    rw [sizeLine_eq] at *
    have hle : (cvs.eraseIdx k).length ≤ cvs.length := List.length_eraseIdx_le ..
    simp [Array.eraseIdxIfInBounds]
    split <;> simp <;> omega

theorem VRs.erase {h : Heap} : ∀ {vs : List V} {cvs : List Value} (k : Nat), VRs h vs cvs → VRs h (vs.eraseIdx k) (cvs.eraseIdx k)
  | _, _, _, .nil => .nil
  | _, _, 0, .cons _ b => b
  | _, _, k + 1, .cons a b => .cons a (b.erase k)
theorem OC.pop_at {l : Addr} {v : V} {vs : List V} {i : Int} {Q : V → AH → Prop} (hl : σ l = some (.list vs)) (hz : vs.length ≤ 16777216) (h0 : -(vs.length : Int) ≤ i) (h1 : i < vs.length) (hv : vs[idx i vs.length]? = some v) (h : Q v (σ.set l (.list (vs.eraseIdx (idx i vs.length))))) :
    OC C f X ρ (.stat (.builtin "list.pop")) [.ref l, .int i] [] σ Q := OC.builtin fun F s cargs x r => by
  obtain ⟨_, ci, rfl, r', ri⟩ := r.two; cases r'.refI
  obtain ⟨u, rfl⟩ := ri.intI
  obtain ⟨cvs, n, ho, hr⟩ := x.obj hl
  obtain ⟨cv, hcv, rv⟩ := hr.get hv
  have hlc := hr.length
  have z := x.seqUpd (g := fun a => a.eraseIdxIfInBounds (idx i vs.length)) (vs' := vs.eraseIdx (idx i vs.length)) (cvs' := cvs.eraseIdx (idx i vs.length)) hl ho (by
    simp only [Array.eraseIdxIfInBounds]
    split
    · simp
    · rename_i q
      simp at q
      rw [List.eraseIdx_of_length_le (by omega)]) (hr.erase _) s.toks
  refine call_meets PySem.F.slot_list_pop ⟨_, ho, rfl⟩ PySem.F.entry_list_pop (PySem.F.args_list_pop_2 _ _)
    (pop_meets l cvs n i u (idx i vs.length) cv ⟨by omega, by omega⟩ (by intro q; subst q; simp at hlc; subst hlc; simp at h0 h1; omega) ?_ hcv (by rw [sizeLine_eq]; omega)) ⟨ho, v, _, z.1, rv.mono z.2, z.2, h⟩
  unfold seqIndex? idx
  rw [← hlc, if_pos]
  split <;> simp <;> omega
theorem OC.insert0 {l : Addr} {v : V} {vs : List V} {Q : V → AH → Prop} (hl : σ l = some (.list vs)) (hz : vs.length ≤ 16777215) (h : Q .none (σ.set l (.list (v :: vs)))) :
    OC C f X ρ (.stat (.builtin "list.insert")) [.ref l, .int 0, v] [] σ Q := OC.builtin fun F s cargs x r => by
  obtain ⟨_, ci, cv, rfl, r', ri, hv⟩ := r.three; cases r'.refI
  obtain ⟨u, rfl⟩ := ri.intI
  obtain ⟨cvs, n, ho, hr⟩ := x.obj hl
  have z := x.seqUpd (g := fun xs => have k := if (0 : Int) < 0 then ((0 : Int) + ((xs.size : Nat) : Int)).toNat else min (0 : Int).toNat xs.size; (xs.extract 0 k).push cv ++ xs.extract k) (vs' := v :: vs) (cvs' := cv :: cvs) hl ho (by simp) (.cons hv hr) s.toks
  exact call_meets PySem.F.slot_list_insert ⟨_, ho, rfl⟩ PySem.F.entry_list_insert (PySem.F.args_list_insert_3 _ _ _)
    (AutoListH.list_insert_list_int_val_1 l (List.toArray cvs) n 0 u cv (by decide) (by have := hr.length; rw [sizeLine_eq]; simp; omega)) ⟨ho, .none, _, z.1, .none, z.2, h⟩
theorem OC.len_list {l : Addr} {vs : List V} {Q : V → AH → Prop} (hl : σ l = some (.list vs)) (hz : vs.length ≤ 16777216) (h : Q (.int vs.length) σ) :
    OC C f X ρ (.stat (.builtin "len")) [.ref l] [] σ Q := OC.builtin fun F s cargs x r => by
  obtain ⟨_, rfl, r'⟩ := r.one; cases r'.refI
  obtain ⟨cvs, n, ho, hr⟩ := x.obj hl
  have hlc := hr.length
  refine call_len_list (items := List.toArray cvs) ⟨_, ho, rfl, n, rfl⟩ (by simp; omega) ⟨.int vs.length, σ, x.toks _, ?_, Tup.refl _, h⟩
  rw [List.size_toArray, ← hlc]; exact .int
theorem OC.len_str {l : List Nat} {Q : V → AH → Prop} (hz : l.length ≤ 16777216) (h : Q (.int l.length) σ) :
    OC C f X ρ (.stat (.builtin "len")) [.str l] [] σ Q := OC.builtin fun F s cargs x r => by
  obtain ⟨_, rfl, r'⟩ := r.one; obtain ⟨t, rfl⟩ := r'.strI
  refine PySem.P.len_str (by rw [tx_length]; omega) ⟨.int l.length, σ, x.toks _, ?_, Tup.refl _, h⟩
  rw [tx_length]; exact .int
theorem OC.abs {i : Int} {Q : V → AH → Prop} (h : Q (.int (if i < 0 then -i else i)) σ) : OC C f X ρ (.stat (.builtin "abs")) [.int i] [] σ Q := OC.builtin fun F s cargs x r => by
  obtain ⟨_, rfl, r'⟩ := r.one; obtain ⟨t, rfl⟩ := r'.intI
  exact call_abs_int fun u tk => ⟨.int _, σ, x.toks _, .int, Tup.refl _, h⟩
theorem O2.add_list {l b : Addr} {vs ws : List V} {Q : V → AH → Prop} (hl : σ l = some (.list vs)) (hb : σ b = some (.list ws)) (hz : vs.length + ws.length ≤ 16777216) (h : ∀ a, σ a = none → Q (.ref a) (σ.set a (.list (vs ++ ws)))) :
    O2 C f X ρ (binaryOp .Add) (.ref l) (.ref b) σ Q := fun F s ca cb x ra rb => by
  cases ra.refI; cases rb.refI
  obtain ⟨cvs, n, ho, hr⟩ := x.obj hl
  obtain ⟨cws, n2, ho2, hr2⟩ := x.obj hb
  have hk : ∀ b ob, s.heap.get? b = some ob → (s.heap.push { cls := .type "list", data := .seq (List.toArray (cvs ++ cws)) }).get? b = some ob := fun b ob e => Heap.get?_push_of_some _ e
  have z := x.new (o := .list (vs ++ ws)) hk ⟨_, 0, Heap.get?_push_size _ rfl, (hr.append hr2).mono (Tup.ext hk)⟩ s.toks
  refine concat_meets ⟨_, ho, rfl⟩ ⟨_, ho2, rfl⟩ noFill_list_add seq_list_add PySem.F.slot_list_add PySem.F.entry_list_add (PySem.F.args_list_add_2 _ _)
    (list_addW l b (List.toArray cvs) (List.toArray cws) n n2 none none #[] #[] (by have := hr.length; have := hr2.length; rw [sizeLine_eq]; simp; omega)) ⟨ho, ho2, ?_⟩
  have e : List.toArray cvs ++ List.toArray cws = List.toArray (cvs ++ cws) := by simp
  rw [e]
  exact ⟨.ref _, _, z.1, .ref, z.2, h _ x.fresh.1⟩
theorem foldl_rep {α : Type} (n : Nat) (l : List α) : List.foldl (fun x1 x2 : Array α => x1 ++ x2) #[] (List.replicate n (List.toArray l)) = List.toArray (List.replicate n l).flatten := by
  have : ∀ (n : Nat) (a : List α), List.foldl (fun x1 x2 : Array α => x1 ++ x2) (List.toArray a) (List.replicate n (List.toArray l)) = List.toArray (a ++ (List.replicate n l).flatten) := by
    intro n
    induction n with
    | zero => intro a; simp
    | succ n ih => intro a; simp only [List.replicate_succ, List.foldl_cons, List.append_toArray, ih, List.flatten_cons, List.append_assoc]
  simpa using this n []
theorem VRs.rep {h : Heap} {vs : List V} {cvs : List Value} (x : VRs h vs cvs) : ∀ n, VRs h (List.replicate n vs).flatten (List.replicate n cvs).flatten
  | 0 => .nil
  | n + 1 => by simp only [List.replicate_succ, List.flatten_cons]; exact x.append (x.rep n)
theorem O2.mul_list {l : Addr} {i : Int} {vs : List V} {Q : V → AH → Prop} (hl : σ l = some (.list vs)) (h0 : 0 ≤ i) (hi : i ≤ 16777216) (hz : vs.length * i.toNat ≤ 16777216) (hne : vs ≠ []) (h : ∀ a, σ a = none → Q (.ref a) (σ.set a (.list (List.replicate i.toNat vs).flatten))) :
    O2 C f X ρ (binaryOp .Mult) (.ref l) (.int i) σ Q := fun F s ca cb x ra rb => by
  cases ra.refI; obtain ⟨u, rfl⟩ := rb.intI
  obtain ⟨cvs, n, ho, hr⟩ := x.obj hl
  have hlc := hr.length
  have hne' : (List.toArray cvs).isEmpty = false := by
    cases hr with
    | nil => exact absurd rfl hne
    | cons => simp
  have hk : ∀ b ob, s.heap.get? b = some ob → (s.heap.push { cls := .type "list", data := .seq (List.toArray (List.replicate i.toNat cvs).flatten) }).get? b = some ob := fun b ob e => Heap.get?_push_of_some _ e
  have z := x.new (o := .list (List.replicate i.toNat vs).flatten) hk ⟨_, 0, Heap.get?_push_size _ rfl, (hr.rep _).mono (Tup.ext hk)⟩ s.toks
  refine wpAny_binaryOp_repeat_ref (T := "list") (U := "int") (by decide) ⟨_, ho, rfl⟩ (fun s' => typeIs_int s' i u) noFill_list_mul PySem.F.fills_int_mul PySem.F.slot_int_rmul repeat_list PySem.F.slot_int_index.lookup
    (call_meets PySem.F.slot_int_rmul (typeIs_int s i u) PySem.F.entry_int_rmul (PySem.F.args_int_rmul_2 _ _) (int___rmul___int_list i u l (List.toArray cvs) n)
      ⟨ho, rfl, ⟨_, ho, rfl⟩, call_meets PySem.F.slot_list_mul ⟨_, ho, rfl⟩ PySem.F.entry_list_mul (PySem.F.args_list_mul_2 _ _)
        (AutoListH.list___mul___list_int_3 l (List.toArray cvs) n i u (by simp [Builtin.List.listFitsIndex]; omega) (by rw [hlc] at hz; simp; omega) (by rw [hlc] at hz; simp [Builtin.List.listTooLong, sizeLine]; omega)) ⟨ho, ?_⟩⟩)
  rw [hne', if_neg Bool.false_ne_true, foldl_rep]
  exact ⟨.ref _, _, z.1, .ref, z.2, h _ x.fresh.1⟩

/-- ranges -/
noncomputable def RangeO (a b c : Int) (o : Obj) : Prop := ∃ t u v, o = { cls := .type "range", data := .fields #[.int a t, .int b u, .int c v] }
theorem OC.range3 {i j k : Int} {Q : V → AH → Prop} (hk0 : k ≠ 0) (hp : Builtin.divisionGoesByPylong (j - i) k = false) (h : ∀ a, σ a = none → Q (.ref a) (σ.set a (.any (RangeO i j k)))) : OC C f X ρ (.stat (.type "range")) [.int i, .int j, .int k] [] σ Q := fun F s cg cargs ckw x rg ra rk rkv => by
  cases rg.statI
  obtain rfl := kw_nil rk
  obtain ⟨_, _, _, rfl, r1, r2, r3⟩ := ra.three; obtain ⟨t, rfl⟩ := r1.intI; obtain ⟨u, rfl⟩ := r2.intI; obtain ⟨v, rfl⟩ := r3.intI
  have hk : ∀ b ob, s.heap.get? b = some ob → (s.heap.push { cls := .type "range", data := .fields #[.int i t, .int j u, .int k v] }).get? b = some ob := fun b ob e => Heap.get?_push_of_some _ e
  have z := x.new (o := .any (RangeO i j k)) hk ⟨_, Heap.get?_push_size _ rfl, ⟨_, _, _, rfl⟩, by simp⟩ s.toks
  exact call_range_3 hk0 ⟨.ref _, _, z.1, .ref, z.2, h _ x.fresh.1⟩ (.inl hp)
theorem Iters.range {r : Addr} {a b c : Int} {n : Nat} (hh : f.A.handled = none) (hr : σ r = some (.any (RangeO a b c))) (hs : Builtin.Range.small a b c = true) (hn : Builtin.Range.rangeSize a b c = n) :
    Iters C f ρ (.ref r) σ (fun _ => True) ((List.range n).map fun k : Nat => .int (a + k * c)) := fun F s cv Q E x rv hq => by
  cases rv.refI
  obtain ⟨o, ho, ⟨t, u, v, rfl⟩, _⟩ := x.obj hr
  refine wpAny_pyIter_range ho hs (hq _ (fun (k : Nat) o => o = { cls := .type "range_iterator", data := .fields #[rawInt (a + k * c), rawInt ((n : Int) - k), rawInt c] }) s.toks (by rw [hn]; simp) rfl ⟨fun k o h => by rw [h]; rfl, ?_, ?_⟩)
  · intro k v F' σ' ρ' s' Q' E' x' hF hsrc ht hv hq'
    obtain ⟨oi, hoi, rfl, _⟩ := (x'.sat.obj _ _ (x'.atF hF)).1
    rw [List.getElem?_map] at hv
    obtain ⟨j, hj, rfl⟩ := Option.map_eq_some_iff.mp hv
    have hjk : j = k ∧ k < n := by
      have h1 := (List.getElem?_eq_some_iff.mp hj)
      obtain ⟨h1, h2⟩ := h1
      simp at h1 h2
      exact ⟨h2.symm, h1⟩
    obtain ⟨rfl, hlt⟩ := hjk
    refine wpAny_pyNext_range_item (x := a + j * c) (left := (n : Int) - j) (step := c) hoi (by omega) fun h' hi hsb => ?_
    refine hq' _ h' _ .int ⟨_, hi, ?_, by simp⟩ hsb
    show _ = ({ cls := _, data := _ } : Obj)
    have e1 : a + (j : Int) * c + c = a + ((j + 1 : Nat) : Int) * c := by
      rw [Int.natCast_succ, Int.add_mul, Int.one_mul]; omega
    have e2 : (n : Int) - j - 1 = (n : Int) - ((j + 1 : Nat) : Int) := by omega
    rw [e1, e2]
  · intro F' σ' ρ' s' Q' E' x' hF hsrc ht hq'
    obtain ⟨oi, hoi, rfl, _⟩ := (x'.sat.obj _ _ (x'.atF hF)).1
    exact wpAny_pyNext_range_end hh (x := a + (List.length ((List.range n).map fun k : Nat => V.int (a + k * c)) : Nat) * c) (left := (n : Int) - (List.length ((List.range n).map fun k : Nat => V.int (a + k * c)) : Nat)) (step := c) hoi (by simp) fun h' hs => hq' h' s'.toks hs
end
end Mine

namespace Mine

section
variable {prog : Program} {w : World} {A : Around} {E : Value → Shared → Prop} {s : Shared}
theorem draw_list {it t : Addr} {items : Array Value} (hne : t ≠ it) : ∀ (n i : Nat) (s : Shared) (Q : List Value → Shared → Prop), s.heap.IsListIter it t i → s.heap.IsList t items → i + n ≤ items.size →
    (∀ h', h'.IsListIter it t (i + n) → Heap.SameBut it s.heap h' → Q ((items.toList.drop i).take n) { s with heap := h' }) → wpAny (model prog w) A (draw (.ref it) n) Q E s
  | 0, i, s, Q, hit, _, _, hQ => by
    show wpAny _ _ (pure []) Q E s
    exact wpAny_pure (by simpa using hQ s.heap hit (Heap.SameBut.refl ..))
  | n + 1, i, s, Q, hit, ht, hle, hQ => by
    have hlt : i < items.size := by omega
    show wpAny _ _ (pyNext (.ref it) >>= _) Q E s
    refine wpAny_bind (wpAny_pyNext_list_item hit ht (x := items[i]) (by simp [hlt]) fun h₁ hit₁ hs₁ => ?_)
    refine wpAny_bind (wpAny_holding (draw_list hne n (i + 1) _ _ hit₁ (ht.extBut hs₁.extBut hne) (by omega) fun h₂ hit₂ hs₂ => wpAny_pure ?_))
    have hd : items.toList.drop i = items[i] :: items.toList.drop (i + 1) := by simp [List.drop_eq_getElem_cons, hlt]
    have := hQ h₂ (by rw [show i + (n + 1) = i + 1 + n by omega]; exact hit₂) (hs₁.trans hs₂)
    rw [hd, List.take_succ_cons] at this
    exact this
theorem unpackItems_list {t : Addr} {items : Array Value} {Q : List Value → Shared → Prop} (hh : A.handled = none) (ht : s.heap.IsList t items)
    (hQ : ∀ h', Heap.ExtBut s.heap.objs.size s.heap h' → Q items.toList { s with heap := h' }) : wpAny (model prog w) A (unpackItems (.ref t) items.size none) Q E s := by
  have hlt : t ≠ s.heap.objs.size := by obtain ⟨o, ho, _⟩ := ht; exact Nat.ne_of_lt (Heap.lt_size ho)
  unfold unpackItems
  refine wpAny_bind ?_
  unfold notIterableAtAll
  refine wpAny_bind (wpAny_specialOf ht.typeIs slot_list_iter.lookup ?_)
  refine wpAny_pure ?_
  simp only [Bool.false_eq_true, if_false]
  refine wpAny_bind (wpAny_holding (wpAny_pyIter_list ht ?_))
  refine wpAny_bind (wpAny_holding (draw_list hlt items.size 0 _ _ ⟨_, Heap.get?_push_size _ rfl, rfl, rfl⟩ (ht.push _) (by omega) fun h₁ hit₁ hs₁ => ?_))
  have hall : List.take items.size (List.drop 0 items.toList) = items.toList := by
    rw [List.drop_zero]; exact List.take_of_length_le (by simp)
  rw [hall]
  rw [if_neg (by simp)]
  have ht₁ : h₁.IsList t items := (ht.push _).extBut hs₁.extBut hlt
  refine wpAny_bind (wpAny_holding (wpAny_pyNext_list_end hh hit₁ ht₁ (by simp) fun h₂ he₂ => ?_))
  simp only [Option.isSome_none, Bool.false_eq_true, if_false]
  exact wpAny_pure (hQ h₂ fun b o hb e => he₂ b o hb (hs₁.extBut b o hb (Heap.get?_push_of_some _ e)))
end

section
variable {C : Cx} {f : Fx} {X : XT} {ρ : Loc} {σ : AH} {d : Nat} {ns : List (PySem.Str × NameKind)}

/-- stores of the parts of an unpacked sequence -/
noncomputable def AsL (C : Cx) (f : Fx) (X : XT) (ρ : Loc) (ts : List (Bool × (Value → Sem Unit))) (vs : List V) (σ : AH) (Q : Loc → AH → Prop) : Prop :=
  ∀ F s cvs, St C f ρ F σ s → VRs s.heap vs cvs → wpAny C.M f.A (assignInOrder (ts.map (·.2)) cvs) (fun _ s' => ∃ ρ' σ', St C f ρ' F σ' s' ∧ Tup s.heap s'.heap ∧ Q ρ' σ') (X F) s
theorem AsL.nil {Q : Loc → AH → Prop} (h : Q ρ σ) : AsL C f X ρ (assignEach [] f.env) [] σ Q := fun F s cvs x r => by
  cases r
  exact wpAny_pure ⟨ρ, σ, x, Tup.refl _, h⟩
theorem AsL.cons {t : Expr} {ts : List Expr} {v : V} {vs : List V} {Q : Loc → AH → Prop} (h : AsV C f X ρ (PySem.assign t f.env) v σ fun ρ₁ σ₁ => AsL C f X ρ₁ (assignEach ts f.env) vs σ₁ Q)
    (he : assignEach (t :: ts) f.env = (false, PySem.assign t f.env) :: assignEach ts f.env := by with_unfolding_all rfl) : AsL C f X ρ (assignEach (t :: ts) f.env) (v :: vs) σ Q := fun F s cvs x r => by
  cases r with | cons rv rs =>
  rename_i cv cvs
  rw [he]
  show wpAny _ _ (do holding cvs (PySem.assign t f.env cv); assignInOrder ((assignEach ts f.env).map (·.2)) cvs) _ _ s
  refine wpAny_bind (wpAny_holding (wpAny_mono (h F s cv x rv) (fun _ s₁ ⟨ρ₁, σ₁, x₁, t₁, h₁⟩ => ?_) fun _ _ e => e))
  exact wpAny_mono (h₁ F s₁ cvs x₁ (rs.mono t₁)) (fun _ s₂ ⟨ρ₂, σ₂, x₂, t₂, h₂⟩ => ⟨ρ₂, σ₂, x₂, t₁.trans t₂, h₂⟩) fun _ _ e => e
theorem ext_of_but {h h' : Heap} (x : Heap.ExtBut h.objs.size h h') : ∀ b o, h.get? b = some o → h'.get? b = some o := fun b o e => x b o (Nat.ne_of_lt (Heap.lt_size e)) e
theorem AsV.tuple {elts : List Expr} {k : Nat} {pos : Pos} {v : V} {vs : List V} {Q : Loc → AH → Prop} (hh : f.A.handled = none)
    (hv : v = .tup vs ∨ ∃ l, v = .ref l ∧ σ l = some (.list vs)) (hn : elts.length = vs.length) (h : AsL C f X ρ (assignEach elts f.env) vs σ Q)
    (hlen : (assignEach elts f.env).length = elts.length := by with_unfolding_all rfl) (hstar : (assignEach elts f.env).findIdx? (·.1) = none := by with_unfolding_all rfl) :
    AsV C f X ρ (PySem.assign (.Tuple elts k pos) f.env) v σ Q := fun F s cv x r => by
  rcases hv with rfl | ⟨l, rfl, hl⟩
  · obtain ⟨a, cvs, rfl, ht, hr⟩ := r.tupI
    refine wpAny_assign_Tuple hh ht (by rw [hlen, hn, hr.length]; simp) hstar fun h' he => ?_
    have z := x.ext (ext_of_but he) s.toks
    exact wpAny_mono (h F _ cvs z.1 (hr.mono z.2)) (fun _ s₂ ⟨ρ₂, σ₂, x₂, t₂, h₂⟩ => ⟨ρ₂, σ₂, x₂, z.2.trans t₂, h₂⟩) fun _ _ e => e
  · cases r.refI
    obtain ⟨cvs, n, ho, hr⟩ := x.obj hl
    rw [arm_assign_Tuple]
    refine wpAny_bind (wpAny_standAt ?_)
    unfold unpack
    have hsz : (assignEach elts f.env).length = (List.toArray cvs).size := by rw [hlen, hn, hr.length]; simp
    rw [hsz, hstar]
    refine wpAny_bind (wpAny_holding (unpackItems_list hh ⟨_, ho, rfl, n, rfl⟩ fun h' he => ?_))
    have z := x.ext (ext_of_but he) s.toks
    exact wpAny_mono (h F _ cvs z.1 (hr.mono z.2)) (fun _ s₂ ⟨ρ₂, σ₂, x₂, t₂, h₂⟩ => ⟨ρ₂, σ₂, x₂, z.2.trans t₂, h₂⟩) fun _ _ e => e

/-- and, or as values -/
theorem Ev.boolop {op : BoolOp} {es : List Expr} {pos : Pos} {Q : V → AH → Prop} (h : Ev C f X ρ (boolOp pos op (evalEach es f.env)) σ Q) : Ev C f X ρ (eval (.BoolOp op es pos) f.env) σ Q := h
theorem Ev.bo_one {op : BoolOp} {e : Expr} {pos : Pos} {Q : V → AH → Prop} (h : Ev C f X ρ (eval e f.env) σ Q) : Ev C f X ρ (boolOp pos op (evalEach [e] f.env)) σ Q := h
noncomputable abbrev kBo2 (C : Cx) (f : Fx) (X : XT) (ρ : Loc) (op : BoolOp) (es : List Expr) (pos : Pos) (v : V) (Q : V → AH → Prop) : Bool → AH → Prop := fun b σ₂ => if (op == .And) = b then Ev C f X ρ (boolOp pos op (evalEach es f.env)) σ₂ Q else Q v σ₂
noncomputable abbrev kBo (C : Cx) (f : Fx) (X : XT) (ρ : Loc) (op : BoolOp) (es : List Expr) (pos : Pos) (Q : V → AH → Prop) : V → AH → Prop := fun v σ₁ => OT C f X ρ v σ₁ (kBo2 C f X ρ op es pos v Q)
theorem Ev.bo_cons {op : BoolOp} {e e' : Expr} {es : List Expr} {pos : Pos} {Q : V → AH → Prop}
    (h : Ev C f X ρ (eval e f.env) σ (kBo C f X ρ op (e' :: es) pos Q)) :
    Ev C f X ρ (boolOp pos op (evalEach (e :: e' :: es) f.env)) σ Q := fun F s x => by
  have harm : boolOp pos op (evalEach (e :: e' :: es) f.env) = (do
    let v ← eval e f.env
    standAt pos
    let t ← holding [v] (truthy v)
    match op, t with
    | .And, false | .Or, true => pure v
    | _, _ => boolOp pos op (evalEach (e' :: es) f.env)) := rfl
  rw [harm]
  refine wpAny_bind (wpAny_mono (h F s x) (fun cv s₁ ⟨v, σ₁, x₁, r₁, t₁, h₁⟩ => ?_) fun _ _ e => e)
  refine wpAny_bind (wpAny_standAt (wpAny_bind (wpAny_holding (wpAny_mono (h₁ F s₁ cv x₁ r₁) (fun b s₂ ⟨σ₂, x₂, t₂, h₂⟩ => ?_) fun _ _ e => e))))
  have tt := t₁.trans t₂
  cases op <;> cases b <;> simp [kBo2] at h₂ <;> dsimp only <;> first
    | exact wpAny_pure ⟨v, σ₂, x₂, r₁.mono t₂, tt, h₂⟩
    | exact wpAny_mono (h₂ F s₂ x₂) (fun _ _ e => e.trans tt) fun _ _ e => e

/-- in a tuple of texts -/
noncomputable def isStrV (y : List Nat) : V → Bool
  | .str l => decide (l = y)
  | _ => false
noncomputable def allStr (ws : List V) : Bool := ws.all fun | .str _ => true | _ => false
noncomputable def isStrC (y : List Nat) : Value → Bool
  | .str z _ => z == tx y
  | _ => false
theorem vrs_strs {h : Heap} : ∀ {ws : List V} {cvs : List Value}, VRs h ws cvs → allStr ws = true → ∀ v ∈ cvs, ∃ z u, v = .str z u
  | _, _, .nil, _, v, hv => by cases hv
  | a :: ws, _, .cons p q, hs, v, hv => by
    simp only [allStr, List.all_cons, Bool.and_eq_true] at hs
    rcases List.mem_cons.mp hv with rfl | hm
    · cases a <;> simp at hs
      obtain ⟨u, rfl⟩ := p.strI
      exact ⟨_, u, rfl⟩
    · exact vrs_strs q (by simpa [allStr] using hs.2) v hm
theorem vrs_any {h : Heap} {y : List Nat} : ∀ {ws : List V} {cvs : List Value}, VRs h ws cvs → allStr ws = true → cvs.any (isStrC y) = ws.any (isStrV y)
  | _, _, .nil, _ => rfl
  | a :: ws, _, .cons p q, hs => by
    simp only [allStr, List.all_cons, Bool.and_eq_true] at hs
    rw [List.any_cons, List.any_cons, vrs_any q (by simpa [allStr] using hs.2)]
    cases a <;> simp at hs
    obtain ⟨u, rfl⟩ := p.strI
    simp only [isStrC, isStrV, tx_beq]
theorem O2.in_tup {y : List Nat} {ws : List V} {Q : V → AH → Prop} (hs : allStr ws = true) (h : Q (.bool (ws.any (isStrV y))) σ) : O2 C f X ρ (compareOp .In) (.str y) (.tup ws) σ Q := fun F s ca cb x ra rb => by
  obtain ⟨t, rfl⟩ := ra.strI
  obtain ⟨a, cvs, rfl, ht, hr⟩ := rb.tupI
  have h1 : ∀ v, v ∈ List.toArray cvs → SeqAt.EqAt f.A.in1 s v (.str (tx y) t) (isStrC y v) := by
    intro v hv
    obtain ⟨z, u, rfl⟩ := vrs_strs hr hs v (by simpa using hv)
    show SeqAt.EqAt _ _ _ _ (z == tx y)
    intro prog w E Q hq
    exact SeqAt.EqAt.str_str z u (tx y) t prog w E Q hq
  refine SeqAt.in_tupleAt (isStrC y) ht h1 ⟨.bool _, σ, x, ?_, Tup.refl _, h⟩
  have : (List.toArray cvs).any (isStrC y) = ws.any (isStrV y) := by rw [← Array.any_toList]; exact vrs_any hr hs
  rw [this]; exact .bool

/-- a list that is not the empty list -/
theorem O2.ne_nil {l b : Addr} {vs : List V} {Q : V → AH → Prop} (ok : f.Ok d ns) (hl : σ l = some (.list vs)) (hb : σ b = some (.list [])) (h : Q (.bool (!vs.isEmpty)) σ) :
    O2 C f X ρ (compareOp .NotEq) (.ref l) (.ref b) σ Q := fun F s ca cb x ra rb => by
  cases ra.refI; cases rb.refI
  obtain ⟨cvs, n, ho, hr⟩ := x.obj hl
  obtain ⟨cws, n2, ho2, hr2⟩ := x.obj hb
  cases hr2
  have hu : f.A.units < cLine := by have := ok.units; omega
  show wpAny _ _ (richCompare .NotEq (.ref l) (.ref b)) _ _ s
  cases hr with
  | nil => exact SeqAt.RcNeAt.lists (items := #[]) (items2 := #[]) (e := fun _ => true) ⟨_, ho, rfl, n, rfl⟩ ⟨_, ho2, rfl, n2, rfl⟩ rfl hu (fun j h1 => by simp at h1) _ _ _ _ ⟨.bool _, σ, x, .bool, Tup.refl _, h⟩
  | cons p q => exact SeqAt.RcNeAt.lists_lengths ⟨_, ho, rfl, n, rfl⟩ ⟨_, ho2, rfl, n2, rfl⟩ (by simp) hu _ _ _ _ ⟨.bool _, σ, x, .bool, Tup.refl _, h⟩
end
end Mine

namespace Mine
/-- the def at an address -/
noncomputable def fnAt (K : Frag) (a : Addr) : FuncData := match K.lookup a with
  | some ⟨_, _, .func fd, _⟩ => fd
  | _ => { name := "", qualname := "", params := ⟨[], [], none, [], [], none, []⟩, body := .stmts [], scope := { kind := .function, names := [], isGenerator := false, isCoroutine := false }, globals := 0, closure := [], defaults := .none, kwdefaults := .none }
noncomputable def bodyOf (fd : FuncData) : List Stmt := match fd.body with | .stmts b => b | _ => []
noncomputable def namesOf (fd : FuncData) : List (PySem.Str × NameKind) := fd.scope.names
/-- what is to be looked at in a def -/
noncomputable def fnGood (K : Frag) (a : Addr) (n : Nat) : Bool := match K.lookup a with
  | some ⟨_, _, .func fd, _⟩ => (match fd.body with | .stmts _ => true | _ => false) && codeIn K fd.code fd.qualname && fd.globals == mainGlobals && fd.builtins == builtinsNs &&
      decide (fd.scope.names.map (·.1)).Nodup && (fd.scope.names.all fun x => x.2 != .cell) && ((fd.scope.names.take n).all fun x => x.2 == .local) && decide (n ≤ fd.scope.names.length) && ((fd.scope.names.map (·.1)).all (fun x => !(x == ("__debug__" : PySem.Str)))) &&
      !fd.scope.isCoroutine && !fd.scope.isGenerator && fd.scope.kind == .function
  | _ => false
section
variable {C : Cx} {f : Fx} {X : XT} {ρ : Loc} {σ : AH} {d : Nat} {ns : List (PySem.Str × NameKind)}
theorem OCc.defE {fa : Addr} {args : List V} {kw : List (PySem.Str × V)} {B : List V → Prop} {n : Nat} {Q : V → AH → Prop} (ok : f.Ok (d + 1) ns) (hg : fnGood C.K fa n = true) (hbind : BindsE C (fnAt C.K fa) args kw B n)
    (h : ∀ (f' : Fx) (bs : List V), B bs → bs.length = n → f'.Ok d (namesOf (fnAt C.K fa)) → (f.A.handled = none → f'.A.handled = none) → Ex C f' NoX (bs.map some ++ List.replicate ((namesOf (fnAt C.K fa)).length - bs.length) none) (execs (bodyOf (fnAt C.K fa)) f'.env) σ fun fl _ σ' => Q (retOf fl) σ') :
    OCc C f X ρ (.stat (.ref fa)) args kw σ Q := by
  unfold fnGood at hg
  split at hg
  · rename_i oc od fd osl hk
    have e : fnAt C.K fa = fd := by unfold fnAt; rw [hk]
    rw [e] at h hbind
    simp only [Bool.and_eq_true, decide_eq_true_eq, beq_iff_eq, Bool.not_eq_true'] at hg
    obtain ⟨⟨⟨⟨⟨⟨⟨⟨⟨⟨⟨h1, h2⟩, h3⟩, h4⟩, h5⟩, h6⟩, h7⟩, h8⟩, hdb⟩, h9⟩, h10⟩, h11⟩ := hg
    have hb : fd.body = .stmts (bodyOf fd) := by
      unfold bodyOf
      split at h1
      · rename_i q; rw [q]
      · cases h1
    exact OCc.fnE ok hk hb h2 h3 h4 h5 (by simpa using h6) (by simpa using h7) h8 hdb h9 h10 h11 hbind h
  · cases hg
theorem OCc.def {fa : Addr} {args : List V} {kw : List (PySem.Str × V)} {bs : List V} {Q : V → AH → Prop} (ok : f.Ok (d + 1) ns) (hg : fnGood C.K fa bs.length = true) (hbind : Binds C (fnAt C.K fa) args kw bs)
    (h : ∀ f' : Fx, f'.Ok d (namesOf (fnAt C.K fa)) → (f.A.handled = none → f'.A.handled = none) → Ex C f' NoX (bs.map some ++ List.replicate ((namesOf (fnAt C.K fa)).length - bs.length) none) (execs (bodyOf (fnAt C.K fa)) f'.env) σ fun fl _ σ' => Q (retOf fl) σ') :
    OCc C f X ρ (.stat (.ref fa)) args kw σ Q := OCc.defE ok hg hbind.toE fun f' bs hB _ ok' hh => by subst hB; exact h f' ok' hh
theorem OC.def {fa : Addr} {args : List V} {kw : List (PySem.Str × V)} {bs : List V} {Q : V → AH → Prop} (ok : f.Ok (d + 1) ns) (hg : fnGood C.K fa bs.length = true) (hbind : Binds C (fnAt C.K fa) args kw bs)
    (h : ∀ f' : Fx, f'.Ok d (namesOf (fnAt C.K fa)) → (f.A.handled = none → f'.A.handled = none) → Ex C f' NoX (bs.map some ++ List.replicate ((namesOf (fnAt C.K fa)).length - bs.length) none) (execs (bodyOf (fnAt C.K fa)) f'.env) σ fun fl _ σ' => Q (retOf fl) σ') :
    OC C f X ρ (.stat (.ref fa)) args kw σ Q := (OCc.def ok hg hbind h).oc
end

/-- the plain binding of values to names, by the kernel's own look -/
theorem Binds.of {C : Cx} {fd : FuncData} {args : List V} {kw : List (PySem.Str × V)} {bs : List V}
    (h : ∀ (s : Shared) cargs ckw, C.K.In s.heap → VRs s.heap args cargs → kw.map (·.1) = ckw.map (·.1) → VRs s.heap (kw.map (·.2)) (ckw.map (·.2)) →
      ∃ cs, VRs s.heap bs cs ∧ ∀ S, peek C.K S (bindArgs fd ⟨cargs, ckw⟩) = some (((fd.scope.names.map (·.1)).take bs.length).zip cs)) : Binds C fd args kw bs := fun A E Q s cargs ckw KI ra rk rkv q => by
  obtain ⟨cs, h1, h2⟩ := h s cargs ckw KI ra rk rkv
  exact (Looks.of_peek KI (h2 _)).here (q cs s.heap (fun _ _ e => e) h1)
theorem kw_zip {ckw : List (PySem.Str × Value)} {ns : List PySem.Str} {vs : List Value} (h1 : ns = ckw.map (·.1)) (h2 : ckw.map (·.2) = vs) : ckw = ns.zip vs := by
  subst h1 h2
  induction ckw with
  | nil => rfl
  | cons a l ih => exact congrArg (a :: ·) ih
theorem Binds.p1 {C : Cx} {fd : FuncData} {a : V} (h : ∀ S ca, peek C.K S (bindArgs fd ⟨[ca], []⟩) = some (((fd.scope.names.map (·.1)).take 1).zip [ca])) : Binds C fd [a] [] [a] :=
  Binds.of fun s cargs ckw KI ra rk rkv => by
    obtain ⟨_, rfl, r⟩ := ra.one
    obtain rfl := kw_nil rk
    exact ⟨_, .cons r .nil, fun S => h S _⟩
theorem Binds.p2 {C : Cx} {fd : FuncData} {a b : V} (h : ∀ S ca cb, peek C.K S (bindArgs fd ⟨[ca, cb], []⟩) = some (((fd.scope.names.map (·.1)).take 2).zip [ca, cb])) : Binds C fd [a, b] [] [a, b] :=
  Binds.of fun s cargs ckw KI ra rk rkv => by
    obtain ⟨_, _, rfl, r, r2⟩ := ra.two
    obtain rfl := kw_nil rk
    exact ⟨_, .cons r (.cons r2 .nil), fun S => h S _ _⟩
end Mine

namespace Mine
/-- the value of a local name -/
inductive GetAt : List (PySem.Str × NameKind) → Loc → PySem.Str → V → Prop
  | head {x v ns r} : GetAt ((x, .local) :: ns) (some v :: r) x v
  | tail {e a ns r x v} : GetAt ns r x v → GetAt (e :: ns) (a :: r) x v
inductive PutAt : List (PySem.Str × NameKind) → Loc → PySem.Str → V → Loc → Prop
  | head {x v a ns r} : PutAt ((x, .local) :: ns) (a :: r) x v (some v :: r)
  | tail {e a ns r r' x v} : PutAt ns r x v r' → PutAt (e :: ns) (a :: r) x v (a :: r')
theorem GetAt.name {ns : List (PySem.Str × NameKind)} {ρ : Loc} {x : PySem.Str} {v : V} (h : GetAt ns ρ x v) : ∃ i, NameAt ns x .local i ∧ ρ[i]? = some (some v) := by
  induction h with
  | head => exact ⟨0, .head, rfl⟩
  | tail _ ih => obtain ⟨i, a, b⟩ := ih; exact ⟨i + 1, .tail a, by simpa using b⟩
theorem PutAt.name {ns : List (PySem.Str × NameKind)} {ρ ρ' : Loc} {x : PySem.Str} {v : V} (h : PutAt ns ρ x v ρ') : ∃ i, NameAt ns x .local i ∧ ρ' = ρ.set i (some v) := by
  induction h with
  | head => exact ⟨0, .head, rfl⟩
  | tail _ ih => obtain ⟨i, a, rfl⟩ := ih; exact ⟨i + 1, .tail a, rfl⟩
section
variable {C : Cx} {f : Fx} {X : XT} {ρ ρ' : Loc} {σ : AH} {d : Nat} {ns : List (PySem.Str × NameKind)}
theorem Fx.Ok.nodbg {x : PySem.Str} {k : NameKind} {i : Nat} (ok : f.Ok d ns) (hi : NameAt ns x k i) : (x == ("__debug__" : PySem.Str)) = false := by
  have := List.all_eq_true.mp ok.dbg x (by rw [Fx.N, ok.names]; exact List.mem_of_getElem? hi.name)
  simpa using this
theorem Ev.loc {x : PySem.Str} {pos : Pos} {v : V} {Q : V → AH → Prop} (ok : f.Ok d ns) (hi : GetAt ns ρ x v) (h : Q v σ) : Ev C f X ρ (eval (.Name x pos) f.env) σ Q :=
  let ⟨_, a, b⟩ := hi.name; Ev.name_local ok a b h (ok.nodbg a)
theorem AsV.loc {x : PySem.Str} {pos : Pos} {v : V} {Q : Loc → AH → Prop} (ok : f.Ok d ns) (hi : PutAt ns ρ x v ρ') (h : Q ρ' σ) :
    AsV C f X ρ (PySem.assign (.Name x pos) f.env) v σ Q := by
  obtain ⟨i, a, rfl⟩ := hi.name
  exact AsV.name ok a h
noncomputable abbrev kPut (ns : List (PySem.Str × NameKind)) (ρ : Loc) (x : PySem.Str) (Q : Fl → Loc → AH → Prop) : V → AH → Prop := fun new σ₂ => ∃ ρ', PutAt ns ρ x new ρ' ∧ Q .next ρ' σ₂
theorem Ex.aug_loc {value : Expr} {x : PySem.Str} {old : V} {tpos pos : Pos} {op : Operator} {Q : Fl → Loc → AH → Prop} (ok : f.Ok d ns) (hi : GetAt ns ρ x old)
    (h : Ev C f X ρ (eval value f.env) σ (kO2 C f X ρ (inplaceOp op) old (kPut ns ρ x Q))) :
    Ex C f X ρ (exec (.AugAssign (.Name x tpos) op value pos) f.env) σ Q := by
  obtain ⟨i, a, b⟩ := hi.name
  refine Ex.aug_name ok a b (Ev.mono h fun v σ₁ h₁ F s ca cb x ra rb => wpAny_mono (h₁ F s ca cb x ra rb) (fun cv s' ⟨w, σ', x', r', t', ρ', hp, hq⟩ => ⟨w, σ', x', r', t', ?_⟩) fun _ _ e => e)
  obtain ⟨j, a', rfl⟩ := hp.name
  have : i = j := nodup_inj (l := ns.map (·.1)) (by have := ok.nd; rw [Fx.N, ok.names] at this; exact this) a.name a'.name
  subst this; exact hq
noncomputable def ofC (cs : List Char) : List Nat := cs.map Char.toNat
theorem Ev.const_chars {cs : List Char} {k : Nat} {pos : Pos} {Q : V → AH → Prop} (h : Q (.str (ofC cs)) σ) : Ev C f X ρ (eval (.Constant (.str (PySem.Str.ofString (String.ofList cs))) k pos) f.env) σ Q :=
  Ev.const_str (Fast.ofString_ofList cs) h
/-- a name of the program's top, or a built-in one -/
inductive Glob (C : Cx) (x : PySem.Str) : Value → Prop
  | top {v} : nsIn C.K mainGlobals x = some (some v) → Glob C x v
  | boot {v} : nsIn C.K mainGlobals x = some none → bootBuiltins x = some v → x ≠ "__name__" → Glob C x v
inductive GlobAt : List (PySem.Str × NameKind) → PySem.Str → Prop
  | head {x ns} : GlobAt ((x, .globalImplicit) :: ns) x
  | tail {e ns x} : GlobAt ns x → GlobAt (e :: ns) x
theorem GlobAt.name {ns : List (PySem.Str × NameKind)} {x : PySem.Str} (h : GlobAt ns x) : ∃ i, NameAt ns x .globalImplicit i := by
  induction h with
  | head => exact ⟨0, .head⟩
  | tail _ ih => obtain ⟨i, a⟩ := ih; exact ⟨i + 1, .tail a⟩
theorem Ev.glob {x : PySem.Str} {pos : Pos} {v : Value} {Q : V → AH → Prop} (ok : f.Ok d ns) (hi : GlobAt ns x) (e : Glob C x v) (h : Q (.stat v) σ) : Ev C f X ρ (eval (.Name x pos) f.env) σ Q := by
  obtain ⟨i, hi⟩ := hi.name
  cases e with
  | top e => exact Ev.name_glob ok hi e h (ok.nodbg hi)
  | boot e hv hn => exact Ev.name_builtin ok hi e hv hn h (ok.nodbg hi)
theorem set_none_inv {a b : Addr} {o' : AO} (e : (σ.set b o') a = none) : a ≠ b ∧ σ a = none := by
  unfold AH.set at e
  split at e
  · cases e
  · exact ⟨by assumption, e⟩
end
end Mine

namespace Mine
/-- the first place of a sign -/
noncomputable def pos? (c : Nat) : List Nat → Option Nat
  | [] => none
  | x :: r => if x = c then some 0 else (pos? c r).map (· + 1)
section
open Builtin Builtin.Str StrLaws
theorem occ_stay (s sub : PySem.Str) (hi : Nat) (a : Nat) : ∀ (l : List Nat) (f : Nat), (forIn l ((#[a] : Array Nat), f) (occBody s sub hi 1)).run.fst = #[a]
  | [], f => rfl
  | b :: l, f => by
    rw [List.forIn_cons]
    unfold occBody
    rw [if_neg (by simp)]
    exact occ_stay s sub hi a l f
theorem occ_first (l : List Nat) (c : Nat) : ∀ (n lo free : Nat), lo + n = l.length + 1 → free ≤ lo →
    (forIn (List.range' lo n) ((#[] : Array Nat), free) (occBody (tx l) (tx [c]) l.length 1)).run.fst.toList = (match pos? c (l.drop lo) with | some k => [lo + k] | none => [])
  | 0, lo, free, h, _ => by
    have : l.drop lo = [] := List.drop_eq_nil_of_le (by omega)
    rw [this]; rfl
  | n + 1, lo, free, h, hf => by
    rw [List.range'_succ, List.forIn_cons]
    have key := subAt_one (tx l) c lo
    have e : (tx l).cps.toList = l := rfl
    have e2 : (tx l).length = l.length := rfl
    have e3 : (⟨#[c]⟩ : PySem.Str) = tx [c] := rfl
    rw [e, e2, e3] at key
    unfold occBody
    by_cases hc : l[lo]? = some c
    · obtain ⟨k1, k2⟩ := key.mpr hc
      rw [if_pos ⟨⟨⟨by simp, hf⟩, k1⟩, k2⟩]
      show (forIn _ ((#[lo] : Array Nat), _) (occBody (tx l) (tx [c]) l.length 1)).run.fst.toList = _
      rw [occ_stay]
      obtain ⟨hlt, hg⟩ := List.getElem?_eq_some_iff.mp hc
      rw [List.drop_eq_getElem_cons hlt, hg]
      simp [pos?]
    · rw [if_neg (fun q => hc (key.mp ⟨q.1.2, q.2⟩))]
      show (forIn _ ((#[] : Array Nat), free) (occBody (tx l) (tx [c]) l.length 1)).run.fst.toList = _
      rw [show lo + 1 = lo + 1 from rfl, occ_first l c n (lo + 1) free (by omega) (by omega)]
      by_cases hlt : lo < l.length
      · rw [List.drop_eq_getElem_cons hlt]
        have : l[lo] ≠ c := fun q => hc (by rw [List.getElem?_eq_getElem hlt, q])
        simp only [pos?, this, if_false]
        cases pos? c (l.drop (lo + 1)) with
        | none => rfl
        | some k => simp; omega
      · rw [List.drop_eq_nil_of_le (Nat.le_of_not_lt hlt), List.drop_eq_nil_of_le (by omega)]; rfl
theorem occ_nl (l : List Nat) (c lo : Nat) (h : lo ≤ l.length) : occurrences (tx l) (tx [c]) lo l.length 1 = (match pos? c (l.drop lo) with | some k => [lo + k] | none => []) := by
  rw [occ_eq]
  exact occ_first l c _ lo lo (by omega) (Nat.le_refl _)
theorem gives_str_find_in (x y : PySem.Str) (i : Int) (t u v z : Tok) : Gives («str.find» ⟨[.str x t, .str y u, .int i v, .int (x.length : Int) z], []⟩) (.int (match occurrences x y (fromIndex x.length i) x.length 1 with | k :: _ => (k : Int) | [] => -1)) := by
  show Gives (match occurrences x y (fromIndex x.length i) (min (max 0 (if (x.length : Int) < 0 then (x.length : Int) + x.length else (x.length : Int))).toNat x.length) 1 with | k :: _ => retInt k | [] => (do rule "str.find.not-found"; retInt (-1))) _
  have : min (max 0 (if (x.length : Int) < 0 then (x.length : Int) + x.length else (x.length : Int))).toNat x.length = x.length := by
    rw [if_neg (by omega)]; omega
  rw [this]
  cases occurrences x y (fromIndex x.length i) x.length 1 with
  | nil => exact .rule (.of_eq rfl)
  | cons k _ => exact .of_eq rfl
end
section
variable {C : Cx} {f : Fx} {X : XT} {ρ ρ' : Loc} {σ : AH} {d : Nat} {ns : List (PySem.Str × NameKind)}
theorem OC.find3 {l : List Nat} {c lo : Nat} {Q : V → AH → Prop} (hlo : lo ≤ l.length) (h : Q (.int (match pos? c (l.drop lo) with | some k => (lo : Int) + k | none => -1)) σ) :
    OC C f X ρ (.stat (.builtin "str.find")) [.str l, .str [c], .int lo, .int l.length] [] σ Q := OC.builtin fun F s cargs x r => by
  cases r with | cons r1 r => cases r with | cons r2 r => cases r with | cons r3 r => cases r with | cons r4 r => cases r with | nil =>
  obtain ⟨_, rfl⟩ := r1.strI; obtain ⟨_, rfl⟩ := r2.strI; obtain ⟨_, rfl⟩ := r3.intI; obtain ⟨_, rfl⟩ := r4.intI
  refine call_gives PySem.F.slot_str_find (typeIs_str _ _ _) PySem.F.entry_str_find (PySem.F.args_str_find_4 _ _ _ _) (gives_str_find_in (tx l) (tx [c]) lo _ _ _ _) ?_
  refine ⟨.int _, σ, x.toks _, .int, Tup.refl _, ?_⟩
  have e : fromIndex (tx l).length (lo : Int) = lo := by
    unfold fromIndex; rw [if_neg (by omega)]; omega
  have e2 : (tx l).length = l.length := rfl
  rw [e, e2, occ_nl l c lo hlo]
  cases hp : pos? c (l.drop lo) with
  | none => rw [hp] at h; exact h
  | some k => rw [hp] at h; simpa using h
theorem OC.isi_str {l : List Nat} {Q : V → AH → Prop} (h : Q (.bool true) σ) : OC C f X ρ (.stat (.builtin "isinstance")) [.str l, .stat (.type "str")] [] σ Q := OC.builtin fun F s cargs x r => by
  obtain ⟨_, _, rfl, r1, r2⟩ := r.two
  obtain ⟨_, rfl⟩ := r1.strI; cases r2.statI
  exact PySem.IsiPair.str_str ⟨.bool _, σ, x, .bool, Tup.refl _, h⟩
theorem OC.type_of {v : V} {T : String} {Q : V → AH → Prop} (hv : (T = "int" ∧ ∃ i, v = .int i) ∨ (T = "str" ∧ ∃ l, v = .str l)) (h : Q (.stat (.type T)) σ) : OC C f X ρ (.stat (.type "type")) [v] [] σ Q := fun F s cg cargs ckw x rg r rk rkv => by
  cases rg.statI
  obtain ⟨_, rfl, r1⟩ := r.one
  obtain rfl := kw_nil rk
  rcases hv with ⟨rfl, i, rfl⟩ | ⟨rfl, l, rfl⟩
  · obtain ⟨_, rfl⟩ := r1.intI
    exact call_type_of (Tx := "int") rfl (by decide +kernel) ⟨_, σ, x, .stat, Tup.refl _, h⟩
  · obtain ⟨_, rfl⟩ := r1.strI
    exact call_type_of (Tx := "str") rfl (by decide +kernel) ⟨_, σ, x, .stat, Tup.refl _, h⟩
theorem OC.int_int {i : Int} {Q : V → AH → Prop} (h : Q (.int i) σ) : OC C f X ρ (.stat (.type "int")) [.int i] [] σ Q := fun F s cg cargs ckw x rg r rk rkv => by
  cases rg.statI
  obtain ⟨_, rfl, r1⟩ := r.one
  obtain rfl := kw_nil rk
  obtain ⟨_, rfl⟩ := r1.intI
  exact call_int_int ⟨_, σ, x, .int, Tup.refl _, h⟩
theorem O2.isnot_type {S T : String} {Q : V → AH → Prop} (h : Q (.bool (!(Value.type S == Value.type T))) σ) : O2 C f X ρ (compareOp .IsNot) (.stat (.type S)) (.stat (.type T)) σ Q := fun F s ca cb x ra rb => by
  cases ra.statI; cases rb.statI
  with_reducible refine wpAny_isNot_plain rfl ?_
  exact ⟨_, σ, x, .bool, Tup.refl _, h⟩
/-- one unit deeper -/
noncomputable abbrev Fx.in1 (f : Fx) : Fx := ⟨f.A.in1, f.env, f.outer⟩
theorem Fx.Ok.in1 (ok : f.Ok (d + 1) ns) : f.in1.Ok d ns :=
  ⟨ok.names, ok.kind, ok.globals, ok.builtins, ok.frame, ok.nd, ok.dbg, by have := ok.depth; show f.A.depth + d < _; omega, by have := ok.units; show f.A.units + 1 + 4 * d + 16 < _; omega, ok.frames⟩
theorem O1.prop {x dx Cc fget : Addr} {es : Es} {name : PySem.Str} {e : Bool} {Q : V → AH → Prop} (ok : f.Ok (d + 1) ns) (A : AProp C Cc name fget) (hx : σ x = some (.inst Cc dx)) (hd : σ dx = some (.dict es))
    (h : OCc C f.in1 NoX ρ (.stat (.ref fget)) [.ref x] [] σ fun v σ' => (∀ i, v ≠ .stat (.builtin i)) ∧ Q v σ') : O1 C f X ρ (fun co => getAttr co name e) (.ref x) σ Q := fun F s ca y r => by
  cases r.refI
  obtain ⟨ces, n, hr, ho, I⟩ := y.inst hx hd
  obtain ⟨pa, rest, p1, p2, p3, p4⟩ := A.p
  have KI := Cx.inK y
  refine get_bind KI I (plainGet_of A.ga).1 (findObj_data (by cases hc : clsIn C.K Cc with | none => have := A.cls; rw [hc] at this; cases this | some => rfl) p1 p2 p3) (plainGet_of A.ga).2 (wpAny_call (prop_get (s := { s with toks := s.toks + 1 }) KI p4 ?_))
  have y' : St C f.in1 ρ F σ { s with toks := s.toks + 1 } := ⟨y.dis, (y.toks _).sat⟩
  have := h F _ (.ref fget) [.ref x] [] y' .stat (.cons .ref .nil) rfl .nil
  refine codeAny_mono this fun r s' hr' => ?_
  cases r with
  | error e => exact hr'.elim
  | ok v => cases v with
    | ret v =>
      obtain ⟨w, σ', x', rv, tt, h1, h2⟩ := hr'
      show wpAny _ _ (handedOut v) _ _ _
      rw [handedOut_of (rv.handed h1)]
      exact wpAny_pure ⟨w, σ', ⟨x'.dis, x'.sat⟩, rv, tt, h2⟩
    | _ => exact hr'.elim
end
end Mine

namespace Mine
/-- a heap with these objects laid over it -/
noncomputable def ov : List Addr → List AO → AH → AH
  | k :: ks, o :: os, σ => (ov ks os σ).set k o
  | _, _, σ => σ
inductive GetO : List Addr → List AO → Addr → AO → Prop
  | head {k o ks os} : GetO (k :: ks) (o :: os) k o
  | tail {k o ks os a p} : GetO ks os a p → GetO (k :: ks) (o :: os) a p
inductive PutO : List Addr → List AO → Addr → AO → List AO → Prop
  | head {k o p ks os} : PutO (k :: ks) (o :: os) k p (p :: os)
  | tail {k o ks os a p os'} : PutO ks os a p os' → PutO (k :: ks) (o :: os) a p (o :: os')
theorem GetO.mem {K : List Addr} {O : List AO} {a : Addr} {o : AO} (h : GetO K O a o) : a ∈ K := by
  induction h with
  | head => exact List.mem_cons_self ..
  | tail _ ih => exact List.mem_cons_of_mem _ ih
theorem PutO.mem {K : List Addr} {O O' : List AO} {a : Addr} {o : AO} (h : PutO K O a o O') : a ∈ K := by
  induction h with
  | head => exact List.mem_cons_self ..
  | tail _ ih => exact List.mem_cons_of_mem _ ih
theorem ov_get {K : List Addr} {O : List AO} {a : Addr} {o : AO} {σ : AH} (hn : K.Nodup) (h : GetO K O a o) : ov K O σ a = some o := by
  induction h with
  | head => exact AH.set_self ..
  | tail h ih =>
    rw [List.nodup_cons] at hn
    exact (AH.set_ne _ _ (fun q => hn.1 (by rw [← q]; exact h.mem))).trans (ih hn.2)
theorem AH.set_set (σ : AH) (a : Addr) (o p : AO) : (σ.set a o).set a p = σ.set a p := by funext b; unfold AH.set; split <;> rfl
theorem AH.set_comm (σ : AH) {a b : Addr} (o p : AO) (h : a ≠ b) : (σ.set a o).set b p = (σ.set b p).set a o := by
  funext c; unfold AH.set
  by_cases h1 : c = a
  · subst h1; rw [if_pos rfl, if_neg h]
    rw [if_pos rfl]
  · rw [if_neg h1, if_neg h1]
theorem ov_set {K : List Addr} {O O' : List AO} {a : Addr} {p : AO} {σ : AH} (hn : K.Nodup) (h : PutO K O a p O') : (ov K O σ).set a p = ov K O' σ := by
  induction h with
  | head => exact AH.set_set ..
  | tail h ih =>
    rw [List.nodup_cons] at hn
    show (AH.set (ov _ _ σ) _ _).set _ _ = (ov _ _ σ).set _ _
    rw [AH.set_comm _ _ _ (fun q => hn.1 (by rw [q]; exact h.mem)), ih hn.2]
theorem ov_none {K : List Addr} {O : List AO} {a : Addr} {σ : AH} (hl : K.length = O.length) (h : ov K O σ a = none) : a ∉ K ∧ σ a = none := by
  induction K generalizing O with
  | nil => exact ⟨by simp, by cases O <;> exact h⟩
  | cons k K ih =>
    cases O with
    | nil => cases hl
    | cons o O =>
      obtain ⟨h1, h2⟩ := set_none_inv h
      obtain ⟨h3, h4⟩ := ih (by simpa using hl) h2
      exact ⟨by simp [h1, h3], h4⟩
theorem ov_new {K : List Addr} {O : List AO} {a : Addr} {σ : AH} (hn : K.Nodup) (hl : K.length = O.length) (h : ov K O σ a = none) : (a :: K).Nodup := List.nodup_cons.mpr ⟨(ov_none hl h).1, hn⟩
/-- several put at once -/
inductive PutAll (K : List Addr) : List AO → List Addr → List AO → List AO → Prop
  | nil {O} : PutAll K O [] [] O
  | cons {O k ks p ps O₁ O₂} : PutAll K O ks ps O₁ → PutO K O₁ k p O₂ → PutAll K O (k :: ks) (p :: ps) O₂
theorem ov_ov {K ks : List Addr} {O ps O' : List AO} {σ : AH} (hn : K.Nodup) (h : PutAll K O ks ps O') : ov ks ps (ov K O σ) = ov K O' σ := by
  induction h with
  | nil => rfl
  | cons _ p ih => exact (congrArg (fun τ => AH.set τ _ _) ih).trans (ov_set hn p)

/-- the fields of an instance, by the list of its keys -/
inductive GetF : List PySem.Str → List V → PySem.Str → V → Prop
  | head {x v ks vs} : GetF (x :: ks) (v :: vs) x v
  | tail {y w ks vs x v} : GetF ks vs x v → GetF (y :: ks) (w :: vs) x v
inductive PutF : List PySem.Str → List V → PySem.Str → V → List V → Prop
  | head {x v w ks vs} : PutF (x :: ks) (w :: vs) x v (v :: vs)
  | tail {y w ks vs x v vs'} : PutF ks vs x v vs' → PutF (y :: ks) (w :: vs) x v (w :: vs')
noncomputable abbrev fields (ks : List PySem.Str) (vs : List V) : AO := .dict (ks.zip vs)
theorem GetF.mem {ks : List PySem.Str} {vs : List V} {x : PySem.Str} {v : V} (h : GetF ks vs x v) : x ∈ ks := by
  induction h with
  | head => exact List.mem_cons_self ..
  | tail _ ih => exact List.mem_cons_of_mem _ ih
theorem PutF.mem {ks : List PySem.Str} {vs vs' : List V} {x : PySem.Str} {v : V} (h : PutF ks vs x v vs') : x ∈ ks := by
  induction h with
  | head => exact List.mem_cons_self ..
  | tail _ ih => exact List.mem_cons_of_mem _ ih
theorem GetF.ent {ks : List PySem.Str} {vs : List V} {x : PySem.Str} {v : V} (h : GetF ks vs x v) : ∃ i, EntAt (ks.zip vs) x v i := by
  induction h with
  | head => exact ⟨0, .head⟩
  | tail _ ih => obtain ⟨i, a⟩ := ih; exact ⟨i + 1, .tail a⟩
theorem PutF.ent {ks : List PySem.Str} {vs vs' : List V} {x : PySem.Str} {v : V} (h : PutF ks vs x v vs') : ∃ i w, EntAt (ks.zip vs) x w i ∧ (ks.zip vs).set i (x, v) = ks.zip vs' := by
  induction h with
  | head => exact ⟨0, _, .head, rfl⟩
  | tail _ ih => obtain ⟨i, w, a, b⟩ := ih; exact ⟨i + 1, w, .tail a, by simp [b]⟩
theorem zip_keys (ks : List PySem.Str) (vs : List V) : (keysOf (ks.zip vs)).Sublist ks := by
  unfold keysOf
  induction ks generalizing vs with
  | nil => simp
  | cons k ks ih => cases vs with
    | nil => simp
    | cons v vs => simpa using ih vs
/-- a class whose instances hold just these plain fields -/
structure OwnF (C : Cx) (cls : Addr) (ks : List PySem.Str) : Prop where
  nd : ks.Nodup
  len : ks.length ≤ 1000
  own : ∀ n ∈ ks, AOwn C cls n
/-- a method of a class -/
structure MethF (C : Cx) (cls : Addr) (ks : List PySem.Str) (name : PySem.Str) (fa : Addr) : Prop where
  m : AMeth C cls name fa
  n : name ∉ ks
noncomputable def okV : V → Bool
  | .stat (.builtin _) => false
  | _ => true
theorem okV.ne {v : V} (h : okV v = true) : ∀ i, v ≠ .stat (.builtin i) := by rintro i rfl; cases h
section
variable {C : Cx} {f : Fx} {X : XT} {ρ ρ' : Loc} {σ : AH} {d : Nat} {ns : List (PySem.Str × NameKind)} {K : List Addr} {O O' : List AO}
theorem O1.ov_attr {x dx cls : Addr} {ks : List PySem.Str} {vs : List V} {name : PySem.Str} {v : V} {e : Bool} {Q : V → AH → Prop} (hn : K.Nodup) (g1 : GetO K O x (.inst cls dx)) (g2 : GetO K O dx (fields ks vs)) (A : OwnF C cls ks)
    (hf : GetF ks vs name v) (hv : okV v = true) (h : Q v (ov K O σ)) : O1 C f X ρ (fun co => getAttr co name e) (.ref x) (ov K O σ) Q :=
  let ⟨_, he⟩ := hf.ent
  O1.attr_own (A.own _ hf.mem) (ov_get hn g1) (ov_get hn g2) (A.nd.sublist (zip_keys ..)) he (okV.ne hv) h
theorem O1.ov_prop {x dx cls fget : Addr} {ks : List PySem.Str} {vs : List V} {name : PySem.Str} {e : Bool} {Q : V → AH → Prop} (ok : f.Ok (d + 1) ns) (hn : K.Nodup) (g1 : GetO K O x (.inst cls dx)) (g2 : GetO K O dx (fields ks vs)) (A : AProp C cls name fget)
    (h : OCc C f.in1 NoX ρ (.stat (.ref fget)) [.ref x] [] (ov K O σ) fun v σ' => (∀ i, v ≠ .stat (.builtin i)) ∧ Q v σ') : O1 C f X ρ (fun co => getAttr co name e) (.ref x) (ov K O σ) Q :=
  O1.prop ok A (ov_get hn g1) (ov_get hn g2) h
theorem OM.ov_inst {x dx cls fa : Addr} {ks : List PySem.Str} {vs : List V} {name : PySem.Str} {Q : V → List V → AH → Prop} (hn : K.Nodup) (g1 : GetO K O x (.inst cls dx)) (g2 : GetO K O dx (fields ks vs)) (A : MethF C cls ks name fa)
    (h : Q (.stat (.ref fa)) [.ref x] (ov K O σ)) : OM C f X ρ name (.ref x) (ov K O σ) Q :=
  OM.inst A.m (ov_get hn g1) (ov_get hn g2) (fun q => A.n ((zip_keys ..).mem q)) h
theorem AS.ov {x dx cls : Addr} {ks : List PySem.Str} {vs vs' : List V} {name : PySem.Str} {v : V} {Q : AH → Prop} (hn : K.Nodup) (g1 : GetO K O x (.inst cls dx)) (g2 : GetO K O dx (fields ks vs)) (A : OwnF C cls ks)
    (hf : PutF ks vs name v vs') (p : PutO K O dx (fields ks vs') O') (h : Q (ov K O' σ)) : AS C f X ρ name (.ref x) v (ov K O σ) Q := by
  obtain ⟨i, w, he, e⟩ := hf.ent
  refine AS.own (A.own _ hf.mem) (ov_get hn g1) (ov_get hn g2) ?_ (A.nd.sublist (zip_keys ..)) he ?_
  · have := A.len; simp; omega
  · rw [e, ov_set hn p]; exact h
theorem OM.ov_deque {a : Addr} {vs : List V} {name : PySem.Str} {id : String} {Q : V → List V → AH → Prop} (hn : K.Nodup) (g : GetO K O a (.deque vs)) (slot : Slot "collections.deque" name id) (hty : typeOf (.builtin id) = pure (.type "method_descriptor"))
    (h : Q (.stat (.builtin id)) [.ref a] (ov K O σ)) : OM C f X ρ name (.ref a) (ov K O σ) Q := OM.deque (ov_get hn g) slot hty h
theorem OM.ov_list {a : Addr} {vs : List V} {name : PySem.Str} {id : String} {Q : V → List V → AH → Prop} (hn : K.Nodup) (g : GetO K O a (.list vs)) (slot : Slot "list" name id) (hty : typeOf (.builtin id) = pure (.type "method_descriptor"))
    (h : Q (.stat (.builtin id)) [.ref a] (ov K O σ)) : OM C f X ρ name (.ref a) (ov K O σ) Q := OM.list (ov_get hn g) slot hty h
theorem OC.ov_popleft {a : Addr} {v : V} {vs : List V} {Q : V → AH → Prop} (hn : K.Nodup) (g : GetO K O a (.deque (v :: vs))) (hsz : vs.length ≤ 1000000) (p : PutO K O a (.deque vs) O') (h : Q v (ov K O' σ)) :
    OC C f X ρ (.stat (.builtin "collections.deque.popleft")) [.ref a] [] (ov K O σ) Q := OC.deque_popleft (ov_get hn g) hsz (by rw [ov_set hn p]; exact h)
theorem OC.ov_dpop {a : Addr} {v : V} {vs : List V} {Q : V → AH → Prop} (hn : K.Nodup) (g : GetO K O a (.deque (vs ++ [v]))) (hsz : vs.length ≤ 1000000) (p : PutO K O a (.deque vs) O') (h : Q v (ov K O' σ)) :
    OC C f X ρ (.stat (.builtin "collections.deque.pop")) [.ref a] [] (ov K O σ) Q := OC.deque_pop (ov_get hn g) hsz (by rw [ov_set hn p]; exact h)
theorem OC.ov_dpop1 {a : Addr} {v : V} {Q : V → AH → Prop} (hn : K.Nodup) (g : GetO K O a (.deque [v])) (p : PutO K O a (.deque []) O') (h : Q v (ov K O' σ)) :
    OC C f X ρ (.stat (.builtin "collections.deque.pop")) [.ref a] [] (ov K O σ) Q := OC.ov_dpop (vs := []) hn g (by simp) p h
theorem OC.ov_dappend {a : Addr} {v : V} {vs : List V} {Q : V → AH → Prop} (hn : K.Nodup) (g : GetO K O a (.deque vs)) (hsz : vs.length ≤ 1000000) (p : PutO K O a (.deque (vs ++ [v])) O') (h : Q .none (ov K O' σ)) :
    OC C f X ρ (.stat (.builtin "collections.deque.append")) [.ref a, v] [] (ov K O σ) Q := OC.deque_append (ov_get hn g) hsz (by rw [ov_set hn p]; exact h)
theorem OC.ov_dappend0 {a : Addr} {v : V} {Q : V → AH → Prop} (hn : K.Nodup) (g : GetO K O a (.deque [])) (p : PutO K O a (.deque [v]) O') (h : Q .none (ov K O' σ)) :
    OC C f X ρ (.stat (.builtin "collections.deque.append")) [.ref a, v] [] (ov K O σ) Q := OC.ov_dappend hn g (by simp) p h
theorem OC.ov_appendleft {a : Addr} {v : V} {vs : List V} {Q : V → AH → Prop} (hn : K.Nodup) (g : GetO K O a (.deque vs)) (hsz : vs.length ≤ 1000000) (p : PutO K O a (.deque (v :: vs)) O') (h : Q .none (ov K O' σ)) :
    OC C f X ρ (.stat (.builtin "collections.deque.appendleft")) [.ref a, v] [] (ov K O σ) Q := OC.deque_appendleft (ov_get hn g) hsz (by rw [ov_set hn p]; exact h)
theorem OT.ov_deque {a : Addr} {vs : List V} {Q : Bool → AH → Prop} (hn : K.Nodup) (g : GetO K O a (.deque vs)) (hsz : vs.length ≤ 1000000) (h : Q (!vs.isEmpty) (ov K O σ)) : OT C f X ρ (.ref a) (ov K O σ) Q := OT.deque (ov_get hn g) hsz h
theorem OC.ov_append {a : Addr} {v : V} {vs : List V} {Q : V → AH → Prop} (hn : K.Nodup) (g : GetO K O a (.list vs)) (hsz : vs.length ≤ 16777215) (p : PutO K O a (.list (vs ++ [v])) O') (h : Q .none (ov K O' σ)) :
    OC C f X ρ (.stat (.builtin "list.append")) [.ref a, v] [] (ov K O σ) Q := OC.append (ov_get hn g) hsz (by rw [ov_set hn p]; exact h)
theorem OC.ov_insert0 {a : Addr} {v : V} {vs : List V} {Q : V → AH → Prop} (hn : K.Nodup) (g : GetO K O a (.list vs)) (hsz : vs.length ≤ 16777215) (p : PutO K O a (.list (v :: vs)) O') (h : Q .none (ov K O' σ)) :
    OC C f X ρ (.stat (.builtin "list.insert")) [.ref a, .int 0, v] [] (ov K O σ) Q := OC.insert0 (ov_get hn g) hsz (by rw [ov_set hn p]; exact h)
theorem OC.ov_pop0 {a : Addr} {v : V} {vs : List V} {Q : V → AH → Prop} (hn : K.Nodup) (g : GetO K O a (.list (v :: vs))) (hsz : vs.length ≤ 16777215) (p : PutO K O a (.list vs) O') (h : Q v (ov K O' σ)) :
    OC C f X ρ (.stat (.builtin "list.pop")) [.ref a, .int 0] [] (ov K O σ) Q :=
  OC.pop_at (v := v) (ov_get hn g) (by simp; omega) (by simp; omega) (by simp) (by simp [idx]) (by
    have : (v :: vs).eraseIdx (idx 0 (v :: vs).length) = vs := by simp [idx]
    rw [this, ov_set hn p]; exact h)
theorem OC.ov_len {a : Addr} {vs : List V} {Q : V → AH → Prop} (hn : K.Nodup) (g : GetO K O a (.list vs)) (hsz : vs.length ≤ 16777216) (h : Q (.int vs.length) (ov K O σ)) :
    OC C f X ρ (.stat (.builtin "len")) [.ref a] [] (ov K O σ) Q := OC.len_list (ov_get hn g) hsz h
noncomputable abbrev kList (Q : V → AH → Prop) : List V → AH → Prop := fun vs σ₁ => vs.length ≤ 16777216 ∧ ∃ K O τ, σ₁ = ov K O τ ∧ K.Nodup ∧ K.length = O.length ∧ ∀ a, (a :: K).Nodup → Q (.ref a) (ov (a :: K) (.list vs :: O) τ)
theorem Ev.ov_list {es : List Expr} {pos : Pos} {Q : V → AH → Prop} (h : El C f X ρ (spliced (backTo pos (starEach es f.env))) σ (kList Q)) :
    Ev C f X ρ (eval (.List es pos) f.env) σ Q := Ev.list (show El .. from fun F s x => wpAny_mono (h F s x) (fun cvs s' ⟨vs, σ', a, b, c, l, K, O, τ, e1, e2, e3, k⟩ => ⟨vs, σ', a, b, c, l, fun p hp => by subst e1; exact k p (ov_new e2 e3 hp)⟩) fun _ _ e => e)
theorem O2.ov_add_list {l b : Addr} {vs ws : List V} {Q : V → AH → Prop} (hn : K.Nodup) (g : GetO K O l (.list vs)) (g' : GetO K O b (.list ws)) (hz : vs.length + ws.length ≤ 16777216) (hl : K.length = O.length) (h : ∀ a, (a :: K).Nodup → Q (.ref a) (ov (a :: K) (.list (vs ++ ws) :: O) σ)) :
    O2 C f X ρ (binaryOp .Add) (.ref l) (.ref b) (ov K O σ) Q := O2.add_list (ov_get hn g) (ov_get hn g') hz fun a ha => h a (ov_new hn hl ha)
theorem O2.ov_mul_list {l : Addr} {i : Int} {vs : List V} {Q : V → AH → Prop} (hn : K.Nodup) (g : GetO K O l (.list vs)) (h0 : 0 ≤ i) (hi : i ≤ 16777216) (hz : vs.length * i.toNat ≤ 16777216) (hne : vs ≠ []) (hl : K.length = O.length)
    (h : ∀ a, (a :: K).Nodup → Q (.ref a) (ov (a :: K) (.list (List.replicate i.toNat vs).flatten :: O) σ)) : O2 C f X ρ (binaryOp .Mult) (.ref l) (.int i) (ov K O σ) Q := O2.mul_list (ov_get hn g) h0 hi hz hne fun a ha => h a (ov_new hn hl ha)
theorem OS.ov_list {value slice : Expr} {l : Addr} {vs : List V} {i : Int} {v : V} {Q : V → AH → Prop} (hn : K.Nodup) (g : GetO K O l (.list vs)) (hlen : vs.length ≤ 16777216) (h0 : -(vs.length : Int) ≤ i) (h1 : i < vs.length) (hv : vs[idx i vs.length]? = some v) (h : Q v (ov K O σ))
    (hs : ∀ o i, subscripted slice false o i = operate [o, i] (getItem o i) := by intros; with_unfolding_all rfl) : OS C f X ρ value slice (.ref l) (.int i) (ov K O σ) Q := OS.list (ov_get hn g) hlen h0 h1 hv h hs
noncomputable abbrev kSl3 (o : V) (lo : Option Int) (Q : V → AH → Prop) : Option Int → AH → Prop := fun hi σ₃ =>
      (∃ l vs K O τ, o = .ref l ∧ σ₃ = ov K O τ ∧ K.Nodup ∧ GetO K O l (.list vs) ∧ vs.length ≤ 16777216 ∧ K.length = O.length ∧ ∀ a, (a :: K).Nodup → Q (.ref a) (ov (a :: K) (.list (pslice vs lo hi) :: O) τ)) ∨
      (∃ l, o = .str l ∧ l.length ≤ 16777216 ∧ Q (.str (pslice l lo hi)) σ₃)
noncomputable abbrev kSl2 (C : Cx) (f : Fx) (X : XT) (ρ : Loc) (upper : Option Expr) (o : V) (Q : V → AH → Prop) : Option Int → AH → Prop := fun lo σ₂ => Ep C f X ρ upper σ₂ (kSl3 o lo Q)
noncomputable abbrev kSl (C : Cx) (f : Fx) (X : XT) (ρ : Loc) (lower upper : Option Expr) (Q : V → AH → Prop) : V → AH → Prop := fun o σ₁ => Ep C f X ρ lower σ₁ (kSl2 C f X ρ upper o Q)
theorem Ev.ov_slice_list {value : Expr} {lower upper : Option Expr} {p pos : Pos} {Q : V → AH → Prop}
    (h : Ev C f X ρ (eval value f.env) σ (kSl C f X ρ lower upper Q)) : Ev C f X ρ (eval (.Subscript value (.Slice lower upper none p) pos) f.env) σ Q :=
  Ev.slice_any (P := fun o lo => kSl3 o lo Q) (fun o lo hi σ₃ h₃ => by
    rcases h₃ with ⟨l, vs, K, O, τ, rfl, rfl, e3, e4, e5, e6, k⟩ | ⟨l, rfl, hz, k⟩
    · exact SlOp.list (ov_get e3 e4) e5 fun a ha => k a (ov_new e3 e6 ha)
    · exact SlOp.str hz k) h
/-- branches -/
theorem ite_t {A B : Prop} (h : A) : if true = true then A else B := by simpa using h
theorem ite_f {A B : Prop} (h : B) : if false = true then A else B := by simpa using h
theorem ite_e {b c : Bool} {A B : Prop} (e : b = c) (h : if c = true then A else B) : if b = true then A else B := e ▸ h
theorem ite_n {b : Bool} {A B : Prop} (h : if b = true then B else A) : if (!b) = true then A else B := by cases b <;> simpa using h
theorem ite_b {b : Bool} {A B : Prop} (h1 : b = true → A) (h0 : b = false → B) : if b = true then A else B := by cases b; exact h0 rfl; exact h1 rfl
end
end Mine

namespace Mine
noncomputable def isB (x : Option (Option Value)) (i : String) : Bool := match x with
  | some (some (.builtin j)) => j == i
  | _ => false
noncomputable def isR (x : Option (Option Value)) (a : Addr) : Bool := match x with
  | some (some (.ref b)) => b == a
  | _ => false
theorem isB.eq {x : Option (Option Value)} {i : String} (h : isB x i = true) : x = some (some (.builtin i)) := by
  unfold isB at h; split at h
  · rw [beq_iff_eq.mp h]
  · cases h
theorem isR.eq {x : Option (Option Value)} {a : Addr} (h : isR x a = true) : x = some (some (.ref a)) := by
  unfold isR at h; split at h
  · rw [beq_iff_eq.mp h]
  · cases h
noncomputable def isNN : Option (Option Value) → Bool
  | some none => true
  | _ => false
theorem isNN.eq {x : Option (Option Value)} (h : isNN x = true) : x = some none := by
  unfold isNN at h; split at h
  · rfl
  · cases h
noncomputable def ownB (K : Frag) (c : Addr) (n : PySem.Str) : Bool :=
  plainGet K c n && hasDictIn K c && (match findIn K (.ref c) n with | some r => noGet K r | none => false) && isB (findIn K (.ref c) "__setattr__") "object.__setattr__" && plainOver K c && (match takerIn K c n with | some none => true | _ => false)
theorem AOwn.of {C : Cx} {c : Addr} {n : PySem.Str} (h : ownB C.K c n = true) : AOwn C c n := by
  unfold ownB at h
  simp only [Bool.and_eq_true] at h
  obtain ⟨⟨⟨⟨⟨h1, h2⟩, h3⟩, h4⟩, h5⟩, h6⟩ := h
  refine ⟨h1, h2, ?_, isB.eq h4, h5, ?_⟩
  · split at h3
    · rename_i r q; exact ⟨r, q, h3⟩
    · cases h3
  · split at h6
    · assumption
    · cases h6
theorem OwnF.of {C : Cx} {c : Addr} {ks : List PySem.Str} (h : (decide ks.Nodup && decide (ks.length ≤ 1000) && ks.all (ownB C.K c)) = true) : OwnF C c ks := by
  simp only [Bool.and_eq_true, decide_eq_true_eq, List.all_eq_true] at h
  exact ⟨h.1.1, h.1.2, fun n hn => AOwn.of (h.2 n hn)⟩
noncomputable def methB (K : Frag) (c : Addr) (ks : List PySem.Str) (n : PySem.Str) (fa : Addr) : Bool :=
  isB (findIn K (.ref c) "__getattribute__") "object.__getattribute__" && isNN (findIn K (.ref c) "__getattr__") && isR (findIn K (.ref c) n) fa && (match typeIn K (.ref fa) with | some (.type t) => t == "function" | _ => false) && !ks.contains n
theorem MethF.of {C : Cx} {c : Addr} {ks : List PySem.Str} {n : PySem.Str} {fa : Addr} (h : methB C.K c ks n fa = true) : MethF C c ks n fa := by
  unfold methB at h
  simp only [Bool.and_eq_true, Bool.not_eq_true'] at h
  obtain ⟨⟨⟨⟨h1, h2⟩, h3⟩, h4⟩, h5⟩ := h
  refine ⟨⟨isB.eq h1, isNN.eq h2, isR.eq h3, ?_⟩, fun q => ?_⟩
  · split at h4
    · rename_i t q; rw [beq_iff_eq.mp h4] at q; exact q
    · cases h4
  · rw [List.contains_iff_mem.mpr q] at h5; cases h5
noncomputable def propB (K : Frag) (c : Addr) (n : PySem.Str) (pa fget : Addr) : Bool :=
  plainGet K c n && (clsIn K c).isSome && isR (findIn K (.ref c) n) pa && isB (specialIn K (.ref pa) "__get__") "property.__get__" && (match takesIn K (.ref pa) with | some true => true | _ => false) &&
    (match recIn K pa "property" with | some (.ref g :: _) => g == fget | _ => false)
theorem AProp.of {C : Cx} {c : Addr} {n : PySem.Str} {pa fget : Addr} (h : propB C.K c n pa fget = true) : AProp C c n fget := by
  unfold propB at h
  simp only [Bool.and_eq_true] at h
  obtain ⟨⟨⟨⟨⟨h1, h2⟩, h3⟩, h4⟩, h5⟩, h6⟩ := h
  split at h6
  · rename_i g r q
    rw [beq_iff_eq.mp h6] at q
    refine ⟨h1, h2, pa, r, isR.eq h3, isB.eq h4, ?_, q⟩
    split at h5
    · assumption
    · cases h5
  · cases h6
noncomputable def globB (K : Frag) (x : PySem.Str) (a : Addr) : Bool := isR (nsIn K mainGlobals x) a
theorem Glob.ofR {C : Cx} {x : PySem.Str} {a : Addr} (h : globB C.K x a = true) : Glob C x (.ref a) := .top (isR.eq h)
section
variable {C : Cx} {f : Fx} {X : XT} {ρ ρ' : Loc} {σ : AH} {d : Nat} {ns : List (PySem.Str × NameKind)} {K : List Addr} {O O' : List AO}
theorem Ex.expr' {e : Expr} {pos : Pos} {Q : Fl → Loc → AH → Prop} (ok : f.Ok d ns) (hs : swapsWith e none pos.line f.env = pure false) (h : Ev C f X ρ (eval e f.env) σ (kNext ρ Q)) : Ex C f X ρ (exec (.Expr e pos) f.env) σ Q := Ex.expr h (by unfold interactive; rw [ok.kind]; rfl) hs
theorem Ev.isAttr {o : Expr} {name : PySem.Str} {pos : Pos} {Q : V → AH → Prop} (h : Ev C f X ρ (eval (.Attribute o name pos) f.env) σ Q) : Ev C f X ρ (eval (.Attribute o name pos) f.env) σ Q := h
theorem Ev.isCmp {o : Expr} {ops : List CmpOp} {rs : List Expr} {pos : Pos} {Q : V → AH → Prop} (h : Ev C f X ρ (eval (.Compare o ops rs pos) f.env) σ Q) : Ev C f X ρ (eval (.Compare o ops rs pos) f.env) σ Q := h
theorem Ev.isCall {o : Expr} {as : List Expr} {ks : List Keyword} {pos : Pos} {Q : V → AH → Prop} (h : Ev C f X ρ (eval (.Call o as ks pos) f.env) σ Q) : Ev C f X ρ (eval (.Call o as ks pos) f.env) σ Q := h
theorem Ev.isMCall {o : Expr} {n : PySem.Str} {p : Pos} {as : List Expr} {ks : List Keyword} {pos : Pos} {Q : V → AH → Prop} (h : Ev C f X ρ (eval (.Call (.Attribute o n p) as ks pos) f.env) σ Q) : Ev C f X ρ (eval (.Call (.Attribute o n p) as ks pos) f.env) σ Q := h
theorem Et.isCmp {o : Expr} {ops : List CmpOp} {rs : List Expr} {pos : Pos} {wh : Sem Value} {Q : Bool → AH → Prop} (h : Et C f X ρ (isTrue (.Compare o ops rs pos) f.env wh) σ Q) : Et C f X ρ (isTrue (.Compare o ops rs pos) f.env wh) σ Q := h
theorem Ex.isAssign {ts : List Expr} {v : Expr} {pos : Pos} {Q : Fl → Loc → AH → Prop} (h : Ex C f X ρ (exec (.Assign ts v pos) f.env) σ Q) : Ex C f X ρ (exec (.Assign ts v pos) f.env) σ Q := h
theorem OC.cat1 {g a : V} {vs : List V} {kw : List (PySem.Str × V)} {Q : V → AH → Prop} (h : OC C f X ρ g (a :: vs) kw σ Q) : OC C f X ρ g ([a] ++ vs) kw σ Q := h
theorem O2.is_none_str {l : List Nat} {Q : V → AH → Prop} (h : Q (.bool false) σ) : O2 C f X ρ (compareOp .Is) (.str l) .none σ Q := O2.is_none rfl h
theorem O2.is_none_int {i : Int} {Q : V → AH → Prop} (h : Q (.bool false) σ) : O2 C f X ρ (compareOp .Is) (.int i) .none σ Q := O2.is_none rfl h
theorem O2.is_none_none {Q : V → AH → Prop} (h : Q (.bool true) σ) : O2 C f X ρ (compareOp .Is) .none .none σ Q := O2.is_none rfl h
theorem O2.isnot_none_str {l : List Nat} {Q : V → AH → Prop} (h : Q (.bool true) σ) : O2 C f X ρ (compareOp .IsNot) (.str l) .none σ Q := O2.isnot_none rfl h
theorem O2.isnot_none_ref {l : Addr} {Q : V → AH → Prop} (h : Q (.bool true) σ) : O2 C f X ρ (compareOp .IsNot) (.ref l) .none σ Q := O2.isnot_none rfl h
theorem O2.isnot_none_none {Q : V → AH → Prop} (h : Q (.bool false) σ) : O2 C f X ρ (compareOp .IsNot) .none .none σ Q := O2.isnot_none rfl h
theorem Ep.i {i : Int} {P : Int → Prop} (h : P i) : ∃ j, V.int i = V.int j ∧ P j := ⟨i, rfl, h⟩
theorem sl_str {A : Prop} {s : List Nat} {P : List Nat → Prop} (hz : s.length ≤ 16777216) (h : P s) : A ∨ ∃ l, V.str s = .str l ∧ l.length ≤ 16777216 ∧ P l := .inr ⟨s, rfl, hz, h⟩
theorem sl_list {B : Prop} {a : Addr} {vs : List V} {P : Addr → List V → List Addr → List AO → AH → Prop} (hn : K.Nodup) (g : GetO K O a (.list vs)) (hz : vs.length ≤ 16777216) (hl : K.length = O.length) (h : ∀ b, (b :: K).Nodup → P b vs K O σ) :
    (∃ l vs K₁ O₁ τ, V.ref a = .ref l ∧ ov K O σ = ov K₁ O₁ τ ∧ K₁.Nodup ∧ GetO K₁ O₁ l (.list vs) ∧ vs.length ≤ 16777216 ∧ K₁.length = O₁.length ∧ ∀ b, (b :: K₁).Nodup → P b vs K₁ O₁ τ) ∨ B :=
  .inl ⟨a, vs, K, O, σ, rfl, rfl, hn, g, hz, hl, h⟩
/-- a list laid out -/
theorem dl_list {vs : List V} {P : Addr → List Addr → List AO → AH → Prop} (hz : vs.length ≤ 16777216) (hn : K.Nodup) (hl : K.length = O.length) (h : ∀ a, (a :: K).Nodup → P a K O σ) :
    vs.length ≤ 16777216 ∧ ∃ K₁ O₁ τ, ov K O σ = ov K₁ O₁ τ ∧ K₁.Nodup ∧ K₁.length = O₁.length ∧ ∀ a, (a :: K₁).Nodup → P a K₁ O₁ τ := ⟨hz, K, O, σ, rfl, hn, hl, h⟩
theorem dl_tup {vs : List V} {P : Prop} (hz : vs.length ≤ 16777216) (h : P) : vs.length ≤ 16777216 ∧ P := ⟨hz, h⟩
theorem OC.lift {ks : List Addr} {os os' : List AO} {r g : V} {args : List V} {kw : List (PySem.Str × V)} {Q : V → AH → Prop} (hn : K.Nodup)
    (small : ∀ (σ : AH) (Q : V → AH → Prop), Q r (ov ks os' σ) → OC C f X ρ g args kw (ov ks os σ) Q)
    (hg : PutAll K O ks os O) (hp : PutAll K O ks os' O') (h : Q r (ov K O' σ)) : OC C f X ρ g args kw (ov K O σ) Q := by
  have := small (ov K O σ) Q (by rw [ov_ov hn hp]; exact h)
  rwa [ov_ov hn hg] at this
end
end Mine

namespace Mine
/-- a further field, the next of the list of keys -/
inductive AppF : List PySem.Str → List V → PySem.Str → V → List V → Prop
  | head {x v ks} : AppF (x :: ks) [] x v [v]
  | tail {y w ks vs x v vs'} : AppF ks vs x v vs' → AppF (y :: ks) (w :: vs) x v (w :: vs')
theorem AppF.mem {ks : List PySem.Str} {vs vs' : List V} {x : PySem.Str} {v : V} (h : AppF ks vs x v vs') : x ∈ ks := by
  induction h with
  | head => exact List.mem_cons_self ..
  | tail _ ih => exact List.mem_cons_of_mem _ ih
theorem AppF.ent {ks : List PySem.Str} {vs vs' : List V} {x : PySem.Str} {v : V} (h : AppF ks vs x v vs') : ks.zip vs ++ [(x, v)] = ks.zip vs' := by
  induction h with
  | head => simp
  | tail _ ih => simp [ih]
theorem AppF.new {ks : List PySem.Str} {vs vs' : List V} {x : PySem.Str} {v : V} (hn : ks.Nodup) (h : AppF ks vs x v vs') : x ∉ keysOf (ks.zip vs) := by
  induction h with
  | head => simp [keysOf]
  | tail h ih =>
    rw [List.nodup_cons] at hn
    have := ih hn.2
    simp only [List.zip_cons_cons, keysOf, List.map_cons, List.mem_cons, not_or]
    exact ⟨fun e => hn.1 (e ▸ h.mem), this⟩
section
variable {C : Cx} {f : Fx} {X : XT} {ρ ρ' : Loc} {σ : AH} {d : Nat} {ns : List (PySem.Str × NameKind)} {K : List Addr} {O O' : List AO}
theorem AS.ov_app {x dx cls : Addr} {ks : List PySem.Str} {vs vs' : List V} {name : PySem.Str} {v : V} {Q : AH → Prop} (hn : K.Nodup) (g1 : GetO K O x (.inst cls dx)) (g2 : GetO K O dx (fields ks vs)) (A : OwnF C cls ks)
    (hf : AppF ks vs name v vs') (p : PutO K O dx (fields ks vs') O') (h : Q (Mine.ov K O' σ)) : AS C f X ρ name (.ref x) v (Mine.ov K O σ) Q := by
  refine AS.new (A.own _ hf.mem) (ov_get hn g1) (ov_get hn g2) ?_ (AppF.new A.nd hf) ?_
  · have := A.len; simp; omega
  · rw [hf.ent, ov_set hn p]; exact h
end
end Mine

namespace Mine
theorem mro_deque : mroOf (.type "collections.deque") = pure [.type "collections.deque", .type "object"] := by rw [mroOf_type]; kernel_rfl
theorem lookup_deque_new : typeLookup (.type "collections.deque") "__new__" = pure (some (.builtin "collections.deque.__new__")) := by rw [typeLookup_type, builtinLookup_eq_fast]; kernel_rfl
theorem sub_deque : isSubtype (.type "collections.deque") (.type "collections.deque") = pure true := by rw [isSubtype_type]; kernel_rfl
theorem slot_deque_init : Slot "collections.deque" "__init__" "collections.deque.__init__" :=
  .of (owner := "collections.deque") (n := "__init__") (by rw [typeLookup_type, builtinLookup_eq_fast]; kernel_rfl) (by decide +kernel) (by decide +kernel) (by decide +kernel)
    (by first | exact .inl (by decide +kernel) | exact .inr (by decide +kernel)) (by rw [isSubtype_type]; kernel_rfl)
theorem called_deque : TypeCalled "collections.deque" "collections.deque.__new__" "collections.deque.__init__" :=
  ⟨by decide +kernel, by decide +kernel, ⟨_, _, mro_deque⟩, madeBy_type mro_deque lookup_deque_new (by decide +kernel), by decide +kernel, sub_deque, slot_deque_init⟩
theorem typeCall_deque : checkTypeCall "collections.deque" ⟨[], []⟩ = pure () := by kernel_rfl
theorem newCall_deque : checkBuiltinCall "collections.deque.__new__" ⟨[.type "collections.deque"], []⟩ = pure () := by kernel_rfl
theorem entry_deque_new : entryFor table "collections.deque.__new__" = some Builtin.«collections.deque.__new__» := entryFor_of_tree (by kernel_rfl)
theorem entry_deque_init : entryFor table "collections.deque.__init__" = some Builtin.«collections.deque.__init__» := entryFor_of_tree (by kernel_rfl)
theorem args_deque_init (a : Value) : argsOk "collections.deque.__init__" ⟨[a], []⟩ := by
  unfold argsOk; kernel_rfl
end Mine

namespace Mine
theorem deque_new_meets : Meets (Builtin.«collections.deque.__new__» ⟨[.type "collections.deque"], []⟩) (fun _ R s => R (.ok (.ret (.ref s.heap.objs.size))) { s with heap := s.heap.push (dqObj 0 []) }) := Meets.of_wp fun prog w A R s h => by
  unfold Builtin.«collections.deque.__new__»
  have h1 : isSubtype (.type "collections.deque") (.type Builtin.Deque.ty) = pure true := sub_deque
  have h2 : isType (.type "collections.deque") = pure true := by kernel_rfl
  have h3 : typeHasDict (.type "collections.deque") = false := by kernel_rfl
  have e1 : Builtin.Deque.newArgs Builtin.Deque.ty ⟨[.type "collections.deque"], []⟩ = pure (.type "collections.deque", []) := by
    unfold Builtin.Deque.newArgs
    simp only [h2, h1]
    rfl
  rw [e1]
  refine wpAny_bind (wpAny_pure ?_)
  unfold Builtin.Deque.new
  simp only [h3]
  refine wpAny_bind (wpAny_bind ?_)
  refine wpAny_pure ?_
  refine wpAny_newObj_type ?_
  exact wpAny_pure ⟨_, rfl, h⟩
theorem deque_init_meets (a : Addr) (k : Int) : Meets (Builtin.«collections.deque.__init__» ⟨[.ref a], []⟩) (fun _ R s => s.heap.get? a = some (dqObj k []) ∧ ∀ h', h'.get? a = some (dqObj k []) → Heap.SameBut a s.heap h' → R (.ok (.ret .none)) { s with heap := h' }) := Meets.of_wp fun prog w A R s h => by
  obtain ⟨h0, h⟩ := h
  unfold Builtin.«collections.deque.__init__»
  show wpAny _ _ (setField (.ref a) 0 .none >>= fun _ => Builtin.Deque.clear (.ref a) >>= fun _ => pure (Fin.done (.ret .none))) _ _ _
  refine wpAny_bind (wpAny_setField_rec h0 (by simp) fun h' g1 g2 => ?_)
  have g1 : h'.get? a = some (dqObj k []) := g1
  refine wpAny_bind ?_
  unfold Builtin.Deque.clear
  refine wpAny_bind (dq_items (s := { s with heap := h' }) g1 ?_)
  exact wpAny_pure (wpAny_pure ⟨_, rfl, h h' g1 g2⟩)
section
variable {C : Cx} {f : Fx} {X : XT} {ρ ρ' : Loc} {σ : AH} {d : Nat} {ns : List (PySem.Str × NameKind)} {K : List Addr} {O O' : List AO}
theorem OC.deque {Q : V → AH → Prop} (hn : K.Nodup) (hl : K.length = O.length) (h : ∀ a, (a :: K).Nodup → Q (.ref a) (ov (a :: K) (.deque [] :: O) σ)) : OC C f X ρ (.stat (.type "collections.deque")) [] [] (ov K O σ) Q := fun F s cg cargs ckw y rg ra rk rkv => by
  cases rg.statI
  cases ra
  obtain rfl := kw_nil rk
  have fr := (y.fresh).1
  refine callType_meets (Q₁ := fun obj s₁ => obj = .ref s.heap.objs.size ∧ s₁ = { s with heap := s.heap.push (dqObj 0 []) }) called_deque typeCall_deque newCall_deque entry_deque_new entry_deque_init deque_new_meets ⟨rfl, rfl⟩ ?_
  rintro obj s₁ ⟨rfl, rfl⟩
  have hx : (s.heap.push (dqObj 0 [])).get? s.heap.objs.size = some (dqObj 0 []) := by heap_get
  refine ⟨⟨_, hx, rfl⟩, args_deque_init _, _, deque_init_meets _ 0, hx, fun h' g1 g2 => ⟨rfl, ?_⟩⟩
  obtain ⟨z, tp⟩ := y.new (o := .deque []) (h' := h') (fun b o e => g2.extBut b o (Nat.ne_of_lt (Heap.lt_size e)) (Heap.get?_push_of_some _ e)) ⟨[], 0, g1, .nil⟩ s.toks
  exact ⟨.ref s.heap.objs.size, _, z, .ref, tp, h _ (ov_new hn hl fr)⟩
end
end Mine

namespace Mine
/-- a look that lays two objects -/
theorem wp_peekA {α : Type} {K : Frag} {M : Model} {A : Around} {E : Value → Shared → Prop} {Q : α → Shared → Prop} {s : Shared} {o : Obj} (X : K.In s.heap) :
    ∀ (t : Sem α) (g : Addr → Sem α), peekA K ⟨M.prog, M.w.params⟩ t = some (o, g) → wpAny M A (g s.heap.objs.size) Q E { s with heap := s.heap.push o } → wpAny M A t Q E s := by
  intro t
  induction t with
  | rule _ k ih => intro g e q Γ p hΓ; exact ih () g e q Γ p hΓ
  | point _ k ih => intro g e q Γ p hΓ; exact ih () g e q Γ p hΓ
  | ask k ih => intro g e q Γ p hΓ; exact ih _ g e q Γ p hΓ
  | load a _ k ih =>
    intro g e q Γ p hΓ
    simp only [peekA] at e
    split at e
    · rename_i ob ho; exact ⟨ob, X _ _ ho, ih ob g e q Γ p hΓ⟩
    · cases e
  | alloc ob k _ =>
    intro g e q
    have e : some (ob, k) = some (o, g) := e
    obtain ⟨e1, e2⟩ := Prod.mk.inj (Option.some.inj e)
    subst e1
    subst e2
    show wpAny M A (alloc ob >>= k) Q E s
    exact wpAny_bind (wpAny_alloc q)
  | _ => intro g e; cases e
noncomputable def peek2 {α : Type} (K : Frag) (S : Setting) (a b : Addr) (t : Sem α) : Option (Obj × Obj × α) :=
  match peekA K S t with
  | some (o, g) => match peekA K S (g a) with
    | some (o2, g2) => (peek K S (g2 b)).map fun r => (o, o2, r)
    | none => none
  | none => none
theorem wp_peek2 {α : Type} {K : Frag} {M : Model} {A : Around} {E : Value → Shared → Prop} {Q : α → Shared → Prop} {s : Shared} {o o2 : Obj} {t : Sem α} {r : α} (X : K.In s.heap)
    (e : peek2 K ⟨M.prog, M.w.params⟩ s.heap.objs.size (s.heap.objs.size + 1) t = some (o, o2, r)) (q : Q r { s with heap := (s.heap.push o).push o2 }) : wpAny M A t Q E s := by
  unfold peek2 at e
  split at e
  · rename_i o' g e1
    split at e
    · rename_i o2' g2 e2
      obtain ⟨r', e3, e4⟩ := Option.map_eq_some_iff.mp e
      cases e4
      refine wp_peekA X _ _ e1 ?_
      have X1 : K.In (s.heap.push o) := fun a b c => Heap.get?_push_of_some _ (X a b c)
      have X2 : K.In ((s.heap.push o).push o2) := fun a b c => Heap.get?_push_of_some _ (X1 a b c)
      refine wp_peekA (s := { s with heap := s.heap.push o }) X1 _ _ e2 ?_
      have sz : (s.heap.push o).objs.size = s.heap.objs.size + 1 := by rw [Heap.size_push]
      show wpAny M A (g2 (s.heap.push o).objs.size) Q E _
      rw [sz]
      exact (Looks.of_peek X2 e3).here q
    · cases e
  · cases e
section
variable {C : Cx} {f : Fx} {X : XT} {ρ ρ' : Loc} {σ : AH} {d : Nat} {ns : List (PySem.Str × NameKind)} {K : List Addr} {O O' : List AO}

/-- the binding of (cls, *args, **kwargs) for one argument -/
theorem BindsE.star1 {c : Value} {a : V} {fd : FuncData} (h : ∀ S x y ca, peek2 C.K S x y (bindArgs fd ⟨[c, ca], []⟩) = some (⟨.type "tuple", none, .seq #[ca] 0, #[]⟩, emptyDict, ((fd.scope.names.map (·.1)).take 3).zip [c, .ref x, .ref y])) :
    BindsE C fd [.stat c, a] [] (fun bs => ∃ y, bs = [.stat c, .tup [a], .ref y]) 3 := fun A E Q s cargs ckw KI ra rk rkv q => by
  obtain ⟨_, ca, rfl, r1, r2⟩ := ra.two
  cases r1.statI
  obtain rfl := kw_nil rk
  refine wp_peek2 KI (h _ _ _ _) ?_
  have hx : ((s.heap.push ⟨.type "tuple", none, .seq #[ca] 0, #[]⟩).push emptyDict).get? s.heap.objs.size = some ⟨.type "tuple", none, .seq #[ca] 0, #[]⟩ := by heap_get
  have k : ∀ b o, s.heap.get? b = some o → ((s.heap.push ⟨.type "tuple", none, .seq #[ca] 0, #[]⟩).push emptyDict).get? b = some o := fun b o e => Heap.get?_push_of_some _ (Heap.get?_push_of_some _ e)
  exact q [.stat c, .tup [a], .ref (s.heap.objs.size + 1)] _ _ ⟨_, rfl⟩ rfl k (.cons .stat (.cons (.tup ⟨_, hx, rfl, 0, rfl⟩ (.cons (r2.mono (Tup.ext k)) .nil)) (.cons .ref .nil)))
theorem O2.isnot_stat {a b : Value} {r : Bool} {Q : V → AH → Prop} (e : ∀ S, peek C.K S (compareOp .IsNot a b) = some (.bool r)) (h : Q (.bool r) σ) : O2 C f X ρ (compareOp .IsNot) (.stat a) (.stat b) σ Q := fun F s ca cb x ra rb => by
  cases ra.statI; cases rb.statI
  exact (Looks.of_peek (Cx.inK x) (e _)).here ⟨_, σ, x, .bool, Tup.refl _, h⟩
end
end Mine

namespace Mine
/-- what is to be looked at in a class with a def __new__ -/
noncomputable def makesNB (K : Frag) (C pN fN fI : Addr) : Bool := (match K.lookup C with
  | some ⟨_, _, .cls cd, _⟩ => !cd.mro.isEmpty && cd.mro.contains (.ref C)
  | _ => false) &&
  specialIn K (.ref C) "__call__" == some (some (.builtin "type.__call__")) && instIn K (.ref C) (.type "type") == some true &&
  typeIn K (.ref C) == some (.type "type") && readsIn K C (.type "type") &&
  (match findCls K (.ref C) (.type "type") "__new__" with | some (.get (.builtin g) (.ref p) .none (.ref c)) => g == "staticmethod.__get__" && p == pN && c == C | _ => false) &&
  (match recIn K pN "staticmethod" with | some (.ref g :: _) => g == fN | _ => false) && handedIn (.ref fN) &&
  isR (findIn K (.ref C) "__init__") fI && typeIn K (.ref fI) == some (.type "function")
section
variable {C : Cx} {f : Fx} {X : XT} {ρ ρ' : Loc} {σ : AH} {d : Nat} {ns : List (PySem.Str × NameKind)} {K : List Addr} {O O' : List AO}
theorem OCc.makeN {Cc pN fN fI : Addr} {args : List V} {Q : V → AH → Prop} (ok : f.Ok (d + 1) ns) (hm : makesNB C.K Cc pN fN fI = true) (made : ∀ S, peek C.K S (Bind.madeBy (.ref Cc)) = some none)
    (h : ∀ (f' : Fx), f'.Ok d ns → (f.A.handled = none → f'.A.handled = none) → OCc C f' NoX ρ (.stat (.ref fN)) (.stat (.ref Cc) :: args) [] σ fun v σ₁ => ∃ x dx, v = .ref x ∧ σ₁ x = some (.inst Cc dx) ∧
      OCc C f' NoX ρ (.stat (.ref fI)) (.ref x :: args) [] σ₁ fun v σ' => v = .none ∧ Q (.ref x) σ') :
    OCc C f X ρ (.stat (.ref Cc)) args [] σ Q := fun F s cg cargs ckw y rg ra rk rkv => by
  cases rg.statI
  obtain rfl := kw_nil rk
  have KI := Cx.inK y
  unfold makesNB at hm
  simp only [Bool.and_eq_true, beq_iff_eq] at hm
  obtain ⟨⟨⟨⟨⟨⟨⟨⟨⟨m1, m2⟩, m3⟩, m4⟩, m5⟩, m6⟩, m7⟩, m8⟩, m9⟩, m10⟩ := hm
  split at m1
  case h_2 => cases m1
  rename_i oc od cd sl hC
  simp only [Bool.and_eq_true, Bool.not_eq_true'] at m1
  obtain ⟨m1, m1'⟩ := m1
  split at m6
  case h_2 => cases m6
  rename_i g p c hget
  simp only [Bool.and_eq_true, beq_iff_eq] at m6
  obtain ⟨⟨rfl, rfl⟩, rfl⟩ := m6
  split at m7
  case h_2 => cases m7
  rename_i g r hrec
  rw [beq_iff_eq] at m7
  subst m7
  have hi := isR.eq m9
  have hc : clsIn C.K c = some cd := by unfold clsIn; rw [hC]
  have selfK : mroIn C.K c (.ref c) = some true := by unfold mroIn; rw [hc, Option.bind_some, if_neg (by rw [m1]; decide), m1']
  have call : Looks C.M s.heap (specialOf (.ref c) "__call__") (some (.builtin "type.__call__")) := looks_specialIn KI m2
  have typ : Looks C.M s.heap (isInstance (.ref c) (.type "type")) true := looks_instIn KI m3
  have made' : Looks C.M s.heap (Bind.madeBy (.ref c)) none := Looks.of_peek KI (made _)
  have hm : Looks C.M s.heap (mroOf (.ref c)) cd.mro := (looks_clsIn KI hc).andThen .now
  obtain ⟨hh, gg, dr, t, os⟩ := s
  refine codeAny_of_tree ?_
  show wpAny _ _ (callAny (.ref c) _) _ _ _
  refine nd_load (KI _ _ hC) ?_
  show wpAny _ _ (callAny.viaDunder (.ref c) _) _ _ _
  unfold callAny.viaDunder
  refine wpAny_bind (call.at ?_)
  dsimp only
  rw [tc_bind]
  refine wpAny_bind (wpAny_pure (wpAny_bind (wpAny_pure ?_)))
  refine wpAny_pure (a := Fin.again (.call (.builtin "type.__call__") ⟨.ref c :: cargs, []⟩)) (And.intro rfl ?_)
  refine codeAny_call_builtin_at (Code.quiet_builtin _ (by decide +kernel)) entry_typeCall (check_slot tc_kind tc_split typ (tc_args _ _ _) ?_)
  unfold Builtin.«type.__call__»
  let f' : Fx := ⟨f.A.under (.builtin "type.__call__" ⟨.ref c :: cargs, []⟩), f.env, f.outer⟩
  have ok' : f'.Ok d ns := ⟨ok.names, ok.kind, ok.globals, ok.builtins, ok.frame, ok.nd, ok.dbg, by have := ok.depth; show f.A.depth + 1 + d < _; omega, by have := ok.units; show f.A.units + 1 + 4 * d + 16 < _; omega, ok.frames⟩
  have m1n : ¬ (cd.mro.isEmpty = true) := by rw [m1]; decide
  repeat (first | with_reducible refine wp_if_neg m1n ?_ | with_reducible refine wpAny_bind (wp_if_neg m1n ?_) | with_reducible refine wpAny_bind (cls_bind (s := ⟨hh, gg, dr, t, os⟩) KI m5 hget (wpAny_call (sm_get (s := ⟨hh, gg, dr, t + 1, os⟩) KI hrec ?_))) | with_reducible refine wpAny_call ?_ | lk)
  have yt := y.toks (t + 1)
  have H := h f' ok' (fun e => e) F ⟨hh, gg, dr, t + 1, os⟩ (.ref g) (.ref c :: cargs) [] ⟨yt.dis, yt.sat⟩ .stat (.cons .stat ra) rfl .nil
  refine codeAny_mono H fun r s₁ hr => ?_
  cases r with
  | error e => exact hr.elim
  | ok v => cases v with
    | ret v =>
      obtain ⟨w, σ₁, x₁, rv, t₁, x, dx, rfl, hx, hI⟩ := hr
      cases rv.refI
      have y₁ : St C f ρ F σ₁ s₁ := ⟨x₁.dis, x₁.sat⟩
      have KI₁ := Cx.inK y₁
      have hob : s₁.heap.get? x = some (instObj c dx) := y₁.obj hx
      have t1 : Looks C.M s₁.heap (typeOf (.ref x)) (.ref c) := (Looks.ld hob).andThen .now
      have s1 : Looks C.M s₁.heap (isSubtype (.ref c) (.ref c)) true := looks_mroIn KI₁ selfK
      have i1 := looks_findIn (M := C.M) KI₁ hi
      have b1 := bind_fn (M := C.M) KI₁ (.ref x) m10
      obtain ⟨hh₁, gg₁, dr₁, tk₁, os₁⟩ := s₁
      unfold isInstance callSpecial? specialOf
      repeat (first | with_reducible refine wpAny_call ?_ | lk)
      have H₁ := hI F ⟨hh₁, gg₁, dr₁, tk₁, os₁⟩ (.ref fI) (.ref x :: cargs) [] x₁ .stat (.cons .ref (ra.mono t₁)) rfl .nil
      refine codeAny_mono H₁ fun r s' hr => ?_
      cases r with
      | error e => exact hr.elim
      | ok v => cases v with
        | ret v =>
          obtain ⟨w, σ', x', rv, tt, rfl, q⟩ := hr
          cases rv.noneI
          exact wpAny_pure (wpAny_pure ⟨.ref x, σ', ⟨x'.dis, x'.sat⟩, .ref, t₁.trans tt, q⟩)
        | _ => exact hr.elim
    | _ => exact hr.elim
end
end Mine

namespace Mine
noncomputable def newB (K : Frag) (C : Addr) : Bool := (match K.lookup C with
  | some ⟨_, _, .cls cd, _⟩ => !cd.abstract && !cd.hasDel
  | _ => false) && instIn K (.ref C) (.type "type") == some true
section
variable {C : Cx} {f : Fx} {X : XT} {ρ ρ' : Loc} {σ : AH} {d : Nat} {ns : List (PySem.Str × NameKind)} {K : List Addr} {O O' : List AO}
theorem OC.obj_new {Cc : Addr} {Q : V → AH → Prop} (hb : newB C.K Cc = true) (chk : ∀ S, peek C.K S (checkBuiltinCall "object.__new__" ⟨[.ref Cc], []⟩) = some ()) (here : ∀ S, peek C.K S (Bind.madeHere "object.__new__" (.ref Cc)) = some ())
    (h : ∀ x dx, σ dx = none → (σ.set dx (.dict [])) x = none → Q (.ref x) ((σ.set dx (.dict [])).set x (.inst Cc dx))) :
    OC C f X ρ (.stat (.builtin "object.__new__")) [.stat (.ref Cc)] [] σ Q := fun F s cg cargs ckw y rg ra rk rkv => by
  cases rg.statI
  obtain rfl := kw_nil rk
  obtain ⟨_, rfl, r1⟩ := ra.one
  cases r1.statI
  have KI := Cx.inK y
  unfold newB at hb
  simp only [Bool.and_eq_true, beq_iff_eq] at hb
  obtain ⟨m1, m2⟩ := hb
  split at m1
  case h_2 => cases m1
  rename_i oc od cd sl hC
  simp only [Bool.and_eq_true, Bool.not_eq_true'] at m1
  obtain ⟨e1, e2⟩ := m1
  have typ : Looks C.M s.heap (isInstance (.ref Cc) (.type "type")) true := looks_instIn KI m2
  have here' : Looks C.M s.heap (Bind.madeHere "object.__new__" (.ref Cc)) () := Looks.of_peek KI (here _)
  have Fo := PySem.F.objNew
  have hC := KI _ _ hC
  have f1 := (y.fresh).1
  obtain ⟨hh, g, dr, t, os⟩ := s
  obtain ⟨y1, t1⟩ := y.new (o := .dict []) (h' := hh.push emptyDict) (fun b o e => Heap.get?_push_of_some _ e) ⟨[], _, by heap_get, .nil⟩ t
  have sz : (hh.push emptyDict).objs.size = hh.objs.size + 1 := by rw [Heap.size_push]
  have f2 := (y1.fresh).1
  obtain ⟨y2, t2⟩ := y1.new (o := .inst Cc hh.objs.size) (h' := (hh.push emptyDict).push (instObj Cc hh.objs.size)) (fun b o e => Heap.get?_push_of_some _ e) (by
    show ((hh.push emptyDict).push (instObj Cc hh.objs.size)).get? (hh.push emptyDict).objs.size = _
    heap_get) t
  have y2' : St C f ρ F ((σ.set hh.objs.size (.dict [])).set (hh.objs.size + 1) (.inst Cc hh.objs.size)) ⟨(hh.push emptyDict).push (instObj Cc hh.objs.size), g, dr, t, os⟩ := by
    have z := y2
    simp only [sz] at z
    exact z
  have hq := h (hh.objs.size + 1) hh.objs.size f1 (by rw [← sz]; exact f2)
  refine wpAny_call (codeAny_call_builtin_at (Code.quiet_builtin _ Fo.quiet) Fo.entry ((Looks.of_peek KI (chk _)).here ?_))
  unfold Builtin.«object.__new__»
  have fin : ∀ (A' : Around) (R : Fin → Shared → Prop) (E : Value → Shared → Prop), (∀ v, v = .ref (hh.objs.size + 1) → R (.done (.ret v)) ⟨(hh.push emptyDict).push (instObj Cc hh.objs.size), g, dr, t, os⟩) → wpAny C.M A' (do
      let d ← if typeHasDict (.ref Cc) then some <$> alloc { cls := .type "dict", data := .dict #[] } else pure none
      ret (← newObj (.ref Cc) .plain d)) R E ⟨hh, g, dr, t, os⟩ := by
    intro A' R E hR
    show wpAny _ _ ((alloc emptyDict >>= fun x => pure (some x)) >>= _) _ _ _
    refine wpAny_bind (wpAny_bind (wpAny_alloc (wpAny_pure (wpAny_bind ?_))))
    show wpAny _ _ (newObjAsIs _ _ _) _ _ _
    unfold newObjAsIs classHasDel
    refine wpAny_bind (wpAny_alloc (wpAny_bind (wpAny_bind (wpAny_load (Heap.get?_push_of_some _ (Heap.get?_push_of_some _ hC)) (wpAny_pure ?_)))))
    rw [e2]
    refine wpAny_pure (wpAny_pure ?_)
    exact hR _ (by rw [Heap.size_push])
  have e1n : ¬ (cd.abstract = true) := by rw [e1]; decide
  repeat (first | with_reducible refine wp_if_neg e1n ?_ | with_reducible refine wpAny_bind (wp_if_neg e1n ?_) | with_reducible refine fin _ _ _ ?_ | lk)
  rintro v rfl
  exact ⟨.ref (hh.objs.size + 1), _, y2', .ref, t1.trans t2, hq⟩
/-- an attribute of a built-in type, as it is -/
theorem OM.type_val {T : String} {name : PySem.Str} {v : Value} {Q : V → List V → AH → Prop} (ht : typeOf (.type T) = pure (.type "type")) (hs : Manifest.isStub T = false)
    (e : findCls C.K (.type T) (.type "type") name = some (.val v)) (hh : handedIn v = true) (h : Q (.stat v) [] σ) : OM C f X ρ name (.stat (.type T)) σ Q := fun pl F s co y r => by
  cases r.statI
  have X := Cx.inK y
  have hstub : opaqueClassAbove (.type T) = pure none := by unfold opaqueClassAbove; dsimp only; rw [hs]; rfl
  have L0 : Looks C.M s.heap (typeOf (.type T)) (.type "type") := Looks.of_pure ht
  have hg : findIn C.K (.type "type") "__getattribute__" = some (some (.builtin "type.__getattribute__")) := type_tga
  unfold getMethod specialOf
  refine wpAny_bind (wpAny_bind (L0.here ((looks_findIn X hg).here ?_)))
  dsimp only
  rw [if_pos canon_tga]
  refine wpAny_bind ?_
  have LO : Looks C.M s.heap (opaqueClassAbove (.type T)) none := Looks.of_pure hstub
  refine cls_open X LO L0 hg (looks_hook X (r := none) (by rfl)) (by show subIn C.K _ _ = _; rfl) e
    (wpAny_pure (by show wpAny _ _ (handedOut v) _ _ _; rw [handedOut_of hh]; exact wpAny_pure (wpAny_pure ⟨_, _, σ, y.toks (s.toks + 1), .stat, .nil, Tup.refl _, h⟩)))
theorem ov_swap {a b : Addr} {p q : AO} (h : a ≠ b) : ov (a :: b :: K) (p :: q :: O) σ = ov (b :: a :: K) (q :: p :: O) σ := by
  show AH.set (AH.set _ _ _) _ _ = AH.set (AH.set _ _ _) _ _
  rw [AH.set_comm _ _ _ (Ne.symm h)]
theorem OC.ov_obj_new {Cc : Addr} {ks : List PySem.Str} {Q : V → AH → Prop} (hn : K.Nodup) (hl : K.length = O.length) (hb : newB C.K Cc = true) (chk : ∀ S, peek C.K S (checkBuiltinCall "object.__new__" ⟨[.ref Cc], []⟩) = some ()) (here : ∀ S, peek C.K S (Bind.madeHere "object.__new__" (.ref Cc)) = some ())
    (h : ∀ x dx, (dx :: x :: K).Nodup → Q (.ref x) (ov (dx :: x :: K) (fields ks [] :: .inst Cc dx :: O) σ)) :
    OC C f X ρ (.stat (.builtin "object.__new__")) [.stat (.ref Cc)] [] (ov K O σ) Q := OC.obj_new hb chk here fun x dx h1 h2 => by
  have n1 := ov_new hn hl h1
  have n2 : (x :: dx :: K).Nodup := ov_new (K := dx :: K) (O := .dict [] :: O) (σ := σ) n1 (by simpa using hl) h2
  have n3 : (dx :: x :: K).Nodup := by simp at n2 ⊢; exact ⟨⟨fun e => n2.1.1 e.symm, n2.2.1⟩, n2.1.2, n2.2.2⟩
  have := h x dx n3
  unfold fields at this
  rw [List.zip_nil_right, ov_swap (Ne.symm fun e => by simp [e] at n2)] at this
  exact this
theorem OCc.ov_makeN {Cc pN fN fI : Addr} {ks : List PySem.Str} {args : List V} {Q : V → AH → Prop} (ok : f.Ok (d + 1) ns) (hm : makesNB C.K Cc pN fN fI = true) (made : ∀ S, peek C.K S (Bind.madeBy (.ref Cc)) = some none)
    (h : ∀ (f' : Fx), f'.Ok d ns → (f.A.handled = none → f'.A.handled = none) → OCc C f' NoX ρ (.stat (.ref fN)) (.stat (.ref Cc) :: args) [] (ov K O σ) fun v σ₁ => ∃ x dx, v = .ref x ∧ (dx :: x :: K).Nodup ∧ σ₁ = ov (dx :: x :: K) (fields ks [] :: .inst Cc dx :: O) σ)
    (h2 : ∀ (f' : Fx) x dx, f'.Ok d ns → (f.A.handled = none → f'.A.handled = none) → (dx :: x :: K).Nodup → OCc C f' NoX ρ (.stat (.ref fI)) (.ref x :: args) [] (ov (dx :: x :: K) (fields ks [] :: .inst Cc dx :: O) σ) fun v σ' => v = .none ∧ Q (.ref x) σ') :
    OCc C f X ρ (.stat (.ref Cc)) args [] (ov K O σ) Q := OCc.makeN ok hm made fun f' ok' hh F s cg cargs ckw y a b c e => codeAny_mono (h f' ok' hh F s cg cargs ckw y a b c e) fun r s' hr => by
  cases r with
  | error e => exact hr.elim
  | ok v => cases v with
    | ret v =>
      obtain ⟨w, σ', x', rv, tt, x, dx, rfl, n, rfl⟩ := hr
      exact ⟨.ref x, _, x', rv, tt, x, dx, rfl, ov_get n (.tail .head), h2 f' x dx ok' hh n⟩
    | _ => exact hr.elim
end
end Mine

namespace Mine
noncomputable def peek1 {α : Type} (K : Frag) (S : Setting) (a : Addr) (t : Sem α) : Option (Obj × α) :=
  match peekA K S t with
  | some (o, g) => (peek K S (g a)).map fun r => (o, r)
  | none => none
theorem wp_peek1' {α : Type} {K : Frag} {M : Model} {A : Around} {E : Value → Shared → Prop} {Q : α → Shared → Prop} {s : Shared} {o : Obj} {t : Sem α} {r : α} (X : K.In s.heap)
    (e : peek1 K ⟨M.prog, M.w.params⟩ s.heap.objs.size t = some (o, r)) (q : Q r { s with heap := s.heap.push o }) : wpAny M A t Q E s := by
  unfold peek1 at e
  split at e
  · rename_i o' g e1
    obtain ⟨r', e3, e4⟩ := Option.map_eq_some_iff.mp e
    cases e4
    refine wp_peekA X _ _ e1 ?_
    have X1 : K.In (s.heap.push o) := fun a b c => Heap.get?_push_of_some _ (X a b c)
    exact (Looks.of_peek X1 e3).here q
  · cases e
noncomputable abbrev bfObj : Obj := { cls := .type "builtin_function_or_method", data := .fields #[.builtin "dict.fromkeys", .type "dict"] }
theorem cmd_run (S : Setting) (a : Addr) : (peek1 [] S a (Builtin.«classmethod_descriptor.__get__» ⟨[.builtin "dict.fromkeys", .none, .type "dict"], []⟩)).map (fun x => (x.1, match x.2 with | .done f => some f | _ => none)) = some (bfObj, some (.ret (.ref a))) := by kernel_rfl
theorem cmd_type : typeOf (.builtin "dict.fromkeys") = pure (.type "classmethod_descriptor") := by show builtinType _ = _; rw [builtinType_eq_fast]; kernel_rfl
theorem slot_cmd : Slot "classmethod_descriptor" "__get__" "classmethod_descriptor.__get__" :=
  .of (owner := "classmethod_descriptor") (n := "__get__") (by rw [typeLookup_type, builtinLookup_eq_fast]; kernel_rfl) (by decide +kernel) (by decide +kernel) (by decide +kernel)
    (by first | exact .inl (by decide +kernel) | exact .inr (by decide +kernel)) (by rw [isSubtype_type]; kernel_rfl)
theorem args_cmd (a b c : Value) : argsOk "classmethod_descriptor.__get__" ⟨[a, b, c], []⟩ := by
  unfold argsOk; kernel_rfl
theorem entry_cmd : entryFor table "classmethod_descriptor.__get__" = some Builtin.«classmethod_descriptor.__get__» := entryFor_of_tree (by kernel_rfl)
theorem entry_fk : entryFor table "dict.fromkeys" = some Builtin.«dict.fromkeys» := entryFor_of_tree (by kernel_rfl)
theorem entry_fkl : entryFor table "dict.fromkeys.loop" = some Builtin.«dict.fromkeys.loop» := entryFor_of_tree (by kernel_rfl)
theorem chk_fk (S : Setting) (a : Value) : peek [] S (checkBoundCall "dict.fromkeys" ⟨[.type "dict", a], []⟩) = some () := by kernel_rfl

section
variable {prog : Program} {w : World} {A : Around} {E : Value → Shared → Prop} {s : Shared}
theorem dict0_typeCall : checkTypeCall "dict" ⟨[], []⟩ = pure () := by kernel_rfl
theorem dict0_newCall : checkBuiltinCall "dict.__new__" ⟨[.type "dict"], []⟩ = pure () := by kernel_rfl
theorem dict0_args (a : Value) : argsOk "dict.__init__" ⟨[a], []⟩ := by unfold argsOk; kernel_rfl
noncomputable abbrev dictObj0 : Obj := { cls := .type "dict", data := .dict #[] }
theorem dict0_new (S : Setting) (a : Addr) : (peek1 [] S a (Builtin.«dict.__new__» ⟨[.type "dict"], []⟩)).map (fun x => (x.1, match x.2 with | .done f => some f | _ => none)) = some (dictObj0, some (.ret (.ref a))) := by kernel_rfl
theorem noK (h : Heap) : Frag.In [] h := fun _ _ e => by cases e
theorem fin_of {x : Option (Obj × Fin)} {o : Obj} {f : Flow} (e : x.map (fun x => (x.1, match x.2 with | .done f => some f | _ => none)) = some (o, some f)) : x = some (o, .done f) := by
  obtain ⟨⟨o', g⟩, rfl, e2⟩ := Option.map_eq_some_iff.mp e
  obtain ⟨e3, e4⟩ := Prod.mk.inj e2
  cases g with
  | done f' => simp only at e3; simp only [Option.some.injEq] at e4; subst e3 e4; rfl
  | again c => cases e4
theorem call_dict0 {Q : Value → Shared → Prop} (h : Q (.ref s.heap.objs.size) { s with heap := s.heap.push dictObj0 }) : wpAny (model prog w) A (call (.type "dict") []) Q E s := by
  refine callType_codes (Q₁ := fun obj s₁ => obj = .ref s.heap.objs.size ∧ s₁ = { s with heap := s.heap.push dictObj0 }) F.kt_called_dict dict0_typeCall F.entry_dict_init ?_ ?_
  · refine codeAny_call_builtin F.kt_plain_dict_new F.kt_entry_dict_new (wpAny_of_eq dict0_newCall ?_)
    refine wp_peek1' (noK _) (fin_of (dict0_new _ _)) ?_
    exact ⟨rfl, rfl⟩
  rintro obj s₁ ⟨rfl, rfl⟩
  have hx : (s.heap.push dictObj0).get? s.heap.objs.size = some dictObj0 := by heap_get
  have ht : Shared.TypeIs { s with heap := s.heap.push dictObj0 } (.ref s.heap.objs.size) "dict" := ⟨_, hx, rfl⟩
  refine ⟨ht, dict0_args _, ?_⟩
  unfold Builtin.«dict.__init__»
  refine wpAny_bind ?_
  unfold Builtin.Dict.selfAndRest
  refine wpAny_bind (wpAny_notOrdered_dict ht ?_)
  show wpAny _ _ (pure (s.heap.objs.size, [])) _ _ _
  refine wpAny_pure ?_
  unfold Builtin.Dict.updateCommon
  show wpAny _ _ (Builtin.Dict.addKeywords s.heap.objs.size [] >>= fun _ => pure (Fin.done (.ret .none))) _ _ _
  exact wpAny_bind (wpAny_pure (wpAny_pure ⟨rfl, h⟩))

/-- a text's iterator -/
noncomputable def IsSI (h : Heap) (a : Addr) (x : PySem.Str) (t : Tok) (i : Nat) : Prop := h.IsStrIter a "str_ascii_iterator" x t i ∨ h.IsStrIter a "str_iterator" x t i
theorem si_iter {x : PySem.Str} {t : Tok} {Q : Value → Shared → Prop} (h : ∀ o, (∀ h', h'.get? s.heap.objs.size = some o → IsSI h' s.heap.objs.size x t 0) → o.isFreed = false → Q (.ref s.heap.objs.size) { s with heap := s.heap.push o }) : wpAny (model prog w) A (pyIter (.str x t)) Q E s := by
  cases ha : x.cps.all (· < 128)
  · exact wpAny_pyIter_wide ha (h _ (fun h' e => .inr ⟨_, e, rfl, rfl⟩) rfl)
  · exact wpAny_pyIter_ascii ha (h _ (fun h' e => .inl ⟨_, e, rfl, rfl⟩) rfl)
theorem si_item {it : Addr} {x : PySem.Str} {t : Tok} {i c : Nat} {Q : Option Value → Shared → Prop} (hit : IsSI s.heap it x t i) (hx : x.cps[i]? = some c)
    (hQ : ∀ h', IsSI h' it x t (i + 1) → Heap.SameBut it s.heap h' → Q (some (.str ⟨#[c]⟩ s.toks)) { s with heap := h', toks := s.toks + 1 }) : wpAny (model prog w) A (pyNext (.ref it)) Q E s := by
  rcases hit with hit | hit
  · exact wpAny_pyNext_ascii_item hit hx fun h' a b => hQ h' (.inl a) b
  · exact wpAny_pyNext_wide_item hit hx fun h' a b => hQ h' (.inr a) b
theorem si_end {it : Addr} {x : PySem.Str} {t : Tok} {i : Nat} {Q : Option Value → Shared → Prop} (hh : A.handled = none) (hit : IsSI s.heap it x t i) (hx : x.cps[i]? = none)
    (hQ : ∀ h', Heap.ExtBut it s.heap h' → Q none { s with heap := h' }) : wpAny (model prog w) A (pyNext (.ref it)) Q E s := by
  rcases hit with hit | hit
  · exact wpAny_pyNext_ascii_end hh hit hx hQ
  · exact wpAny_pyNext_wide_end hh hit hx hQ
/-- the dict of the signs of a text -/
noncomputable def keysD (l : List Nat) : List (PySem.Str × Value) := l.foldl (fun kvs c => PySem.stored kvs (tx [c]) .none) []
theorem stored_length {K : Type} [DecidableEq K] (kvs : List (K × Value)) (k : K) (v : Value) : (PySem.stored kvs k v).length ≤ kvs.length + 1 := by
  unfold PySem.stored; split <;> simp
theorem fold_length {K : Type} [DecidableEq K] (g : Nat → K) : ∀ (l : List Nat) (kvs : List (K × Value)), (l.foldl (fun kvs c => PySem.stored kvs (g c) .none) kvs).length ≤ kvs.length + l.length
  | [], _ => by simp
  | c :: l, kvs => by
    have := fold_length g l (PySem.stored kvs (g c) .none)
    have := stored_length kvs (g c) .none
    simp; omega
theorem fk_loop {R : Result → Shared → Prop} {dd it : Addr} {h₀ : Heap} {l : List Nat} {t : Tok} (hne : dd ≠ it) (hd0 : h₀.get? dd = none) (hi0 : h₀.get? it = none) (hz : l.length ≤ 1000000) (hh : A.handled = none)
    (hR : ∀ h' tk, (∀ b o, h₀.get? b = some o → h'.get? b = some o) → h'.DictOf (strKind prog w) dd (keysD l) → ∀ s' : Shared, s'.gens = s.gens → s'.drawn = s.drawn → s'.os = s.os → R (.ok (.ret (.ref dd))) { s' with heap := h', toks := tk }) :
    ∀ (n i : Nat), n + i = l.length → ∀ s' : Shared, s'.gens = s.gens → s'.drawn = s.drawn → s'.os = s.os → (∀ b o, h₀.get? b = some o → s'.heap.get? b = some o) → s'.heap.DictOf (strKind prog w) dd (keysD (l.take i)) → IsSI s'.heap it (tx l) t i →
      codeAny (model prog w) A (.builtin "dict.fromkeys.loop" ⟨[.ref dd, .ref it, .none], []⟩) R s' := by
  intro n
  induction n with
  | zero =>
    intro i hi s' e1 e2 e3 hk hD hS
    refine codeAny_builtin entry_fkl ?_
    unfold Builtin.«dict.fromkeys.loop»
    refine wpAny_bind (si_end (by exact hh) hS (by simp [tx]; omega) fun h' hx => ?_)
    refine wpAny_pure ?_
    rw [List.take_of_length_le (by omega)] at hD
    exact hR h' s'.toks (fun b o e => hx b o (fun q => by rw [q, hi0] at e; cases e) (hk b o e)) (hD.extBut hx hne) s' e1 e2 e3
  | succ n ih =>
    intro i hi s' e1 e2 e3 hk hD hS
    have hlt : i < l.length := by omega
    refine codeAny_builtin entry_fkl ?_
    unfold Builtin.«dict.fromkeys.loop»
    refine wpAny_bind (si_item hS (c := l[i]) (by simp [tx, hlt]) fun h' hS' hx => ?_)
    have hD' : h'.DictOf (strKind prog w) dd (keysD (l.take i)) := hD.sameBut hx hne
    have hT : Shared.TypeIs { s' with heap := h', toks := s'.toks + 1 } (.ref dd) "dict" := hD'.typeIs
    refine wpAny_bind (wpAny_typeOf hT ?_)
    show wpAny _ _ (if (Value.type "dict" == Value.type "dict") = true then _ else _) _ _ _
    rw [if_pos (by decide)]
    refine wpAny_bind (wpAny_pure ?_)
    refine wpAny_bind (wpAny_holding ?_)
    refine wpAny_dictSet_pairs (knd := strKind prog w) (k := tx [l[i]]) (by show (_ == _) = true; exact beq_self_eq_true _) hD' (fun h2 hD2 hx2 => ?_) ?_
    · refine wpAny_pure ⟨Code.quiet_builtin _ (by decide +kernel), ?_⟩
      refine ih (i + 1) (by omega) _ e1 e2 e3 (fun b o e => ?_) ?_ ?_
      · have hb1 : b ≠ it := fun q => by rw [q, hi0] at e; cases e
        have hb2 : b ≠ dd := fun q => by rw [q, hd0] at e; cases e
        exact (hx2.2 b hb2).trans ((hx.2 b hb1).trans (hk b o e))
      · have : keysD (l.take (i + 1)) = PySem.stored (keysD (l.take i)) (tx [l[i]]) .none := by
          unfold keysD; rw [List.take_succ_eq_append_getElem hlt, List.foldl_append]; rfl
        rw [this]; exact hD2
      · rcases hS' with q | q
        · exact .inl (q.extBut hx2.extBut hne.symm)
        · exact .inr (q.extBut hx2.extBut hne.symm)
    · have := fold_length (fun c => tx [c]) (l.take i) []
      have h2 : (l.take i).length ≤ l.length := List.length_take_le' ..
      unfold keysD sizeLine
      simp only [List.length_nil] at this
      show List.length _ ≤ _
      omega
end
end Mine

namespace Mine
theorem fk_isType : isType (.type "dict") = pure true := by kernel_rfl
theorem mt_chk (S : Setting) (d : Value) : peek [] S (checkBuiltinCall "str.maketrans" ⟨[d], []⟩) = some () := by kernel_rfl
theorem entry_mt : entryFor table "str.maketrans" = some Builtin.«str.maketrans» := entryFor_of_tree (by kernel_rfl)
theorem entry_tr : entryFor table "str.translate" = some Builtin.«str.translate» := entryFor_of_tree (by kernel_rfl)
theorem slot_tr : Slot "str" "translate" "str.translate" :=
  .of (owner := "str") (n := "translate") (by rw [typeLookup_type, builtinLookup_eq_fast]; kernel_rfl) (by decide +kernel) (by decide +kernel) (by decide +kernel)
    (by first | exact .inl (by decide +kernel) | exact .inr (by decide +kernel)) (by rw [isSubtype_type]; kernel_rfl)
theorem args_tr (a b : Value) : argsOk "str.translate" ⟨[a, b], []⟩ := by unfold argsOk; kernel_rfl
theorem type_tr : typeOf (.builtin "str.translate") = pure (.type "method_descriptor") := by show builtinType _ = _; rw [builtinType_eq_fast]; kernel_rfl
theorem type_mt : typeOf (.builtin "str.maketrans") = pure (.type "builtin_function_or_method") := by show builtinType _ = _; rw [builtinType_eq_fast]; kernel_rfl
theorem ga_chk (S : Setting) (x : PySem.Str) (t : Tok) (a : Value) : peek [] S (checkBuiltinCall "object.__getattribute__" ⟨[.str x t, a], []⟩) = some () := by kernel_rfl
theorem ga_run (S : Setting) (x : PySem.Str) (t tk : Tok) : (peek [] S (Builtin.«object.__getattribute__» ⟨[.str x t, .str "maketrans" tk], []⟩)).bind (fun | .done f => some f | _ => none) = some (.ret (.builtin "str.maketrans")) := by kernel_rfl
theorem ga_entry : entryFor table "object.__getattribute__" = some Builtin.«object.__getattribute__» := entryFor_of_tree (by kernel_rfl)
theorem sp_ga (x : PySem.Str) (t : Tok) : specialOf (.str x t) "__getattribute__" = pure (some (.builtin "object.__getattribute__")) := by kernel_rfl
theorem sp_gattr (x : PySem.Str) (t : Tok) : specialOf (.str x t) "__getattr__" = pure none := by kernel_rfl
theorem sp_mt (x : PySem.Str) (t : Tok) : specialOf (.str x t) "maketrans" = pure (some (.builtin "str.maketrans")) := by kernel_rfl
theorem bs_ga (x : PySem.Str) (t : Tok) : bindSpecial (.builtin "object.__getattribute__") (.str x t) = pure (.builtin "object.__getattribute__", [.str x t]) := by kernel_rfl
section
variable {prog : Program} {w : World} {A : Around} {E : Value → Shared → Prop} {s : Shared}
theorem done_of {x : Option Fin} {f : Flow} (e : x.bind (fun | .done f => some f | _ => none) = some f) : x = some (.done f) := by
  cases x with
  | none => cases e
  | some g => cases g with
    | done f' => simp only [Option.bind_some, Option.some.injEq] at e; subst e; rfl
    | again c => cases e
theorem getMethod_maketrans {x : PySem.Str} {t : Tok} {pl : Sem Bool} {Q : Value × List Value → Shared → Prop} (h : Q (.builtin "str.maketrans", []) { s with toks := s.toks + 1 }) : wpAny (model prog w) A (getMethod (.str x t) "maketrans" pl) Q E s := by
  unfold getMethod
  rw [sp_ga]
  refine wpAny_bind (wpAny_pure ?_)
  dsimp only
  rw [if_neg (by decide +kernel), sp_gattr]
  refine wpAny_bind (wpAny_pure ?_)
  rw [if_neg (by decide), sp_mt]
  refine wpAny_bind (wpAny_pure ?_)
  dsimp only
  rw [type_mt]
  refine wpAny_bind (wpAny_pure ?_)
  rw [if_pos (by decide +kernel)]
  refine wpAny_bind ?_
  unfold getAttr
  refine wpAny_bind (wpAny_mkText ?_)
  unfold getAttrBy
  refine wpAny_holding ?_
  have e1 : typeOf (.str x t) = pure (.type "str") := rfl
  rw [e1]
  refine wpAny_bind (wpAny_pure ?_)
  have e2 : typeLookup (.type "str") "__getattribute__" = pure (some (.builtin "object.__getattribute__")) := by rw [typeLookup_type, builtinLookup_eq_fast]; kernel_rfl
  rw [e2]
  refine wpAny_bind (wpAny_pure ?_)
  dsimp only
  rw [if_neg (by decide)]
  unfold getAttrByItsOwn
  refine wpAny_bind (wpAny_pure ?_)
  refine wpAny_bind (wpAny_attempt (wpAny_holding ?_))
  show wpAny _ _ (boundAndCalled (.builtin "object.__getattribute__") (.str x t) (.str "maketrans" s.toks)) _ _ _
  unfold boundAndCalled
  rw [bs_ga]
  refine wpAny_bind (wpAny_pure ?_)
  refine wpAny_call (codeAny_call_builtin_at (Code.quiet_builtin _ (by decide +kernel)) ga_entry ((Looks.of_peek (noK _) (ga_chk _ x t _)).here ((Looks.of_peek (noK _) (done_of (ga_run _ x t _))).here ?_)))
  exact handed_on rfl (wpAny_pure h)

theorem fk_code {R : Result → Shared → Prop} {l : List Nat} {t : Tok} (hz : l.length ≤ 1000000) (hh : A.handled = none)
    (hR : ∀ h' tk, (∀ b o, s.heap.get? b = some o → h'.get? b = some o) → h'.DictOf (strKind prog w) s.heap.objs.size (keysD l) → R (.ok (.ret (.ref s.heap.objs.size))) { s with heap := h', toks := tk }) :
    codeAny (model prog w) A (.builtin "dict.fromkeys" ⟨[.type "dict", .str (tx l) t], []⟩) R s := by
  refine codeAny_builtin entry_fk ?_
  unfold Builtin.«dict.fromkeys»
  dsimp only
  rw [fk_isType]
  refine wpAny_bind (wpAny_pure ?_)
  rw [if_neg (by decide), F.kt_sub_dict]
  refine wpAny_bind (wpAny_pure ?_)
  rw [if_neg (by decide), if_neg (by simp)]
  refine wpAny_bind (wpAny_rule (wpAny_bind (wpAny_pure ?_)))
  dsimp only
  refine wpAny_bind (call_dict0 ?_)
  refine wpAny_holding ?_
  have hx : (s.heap.push dictObj0).get? s.heap.objs.size = some dictObj0 := by heap_get
  have ht : Shared.TypeIs { s with heap := s.heap.push dictObj0 } (.ref s.heap.objs.size) "dict" := ⟨_, hx, rfl⟩
  refine wpAny_bind (wpAny_pure ?_)
  refine wpAny_bind (wpAny_typeOf ht ?_)
  rw [if_neg (by decide)]
  refine wpAny_bind (wpAny_typeOf ht ?_)
  rw [if_neg (by decide)]
  refine wpAny_bind (si_iter (s := { s with heap := s.heap.push dictObj0 }) fun o hS hf => ?_)
  refine wpAny_pure ⟨Code.quiet_builtin _ (by decide +kernel), ?_⟩
  have sz : (s.heap.push dictObj0).objs.size = s.heap.objs.size + 1 := by rw [Heap.size_push]
  have k1 : ∀ b o, s.heap.get? b = some o → (s.heap.push dictObj0).get? b = some o := fun b o e => Heap.get?_push_of_some _ e
  refine fk_loop (s := s) (h₀ := s.heap) (l := l) (t := t) ?_ ?_ ?_ hz hh (fun h' tk hk hD s' e1 e2 e3 => ?_) l.length 0 rfl _ rfl rfl rfl (fun b o e => Heap.get?_push_of_some _ (k1 b o e)) ?_ (hS _ (by heap_get))
  · show s.heap.objs.size ≠ (s.heap.push dictObj0).objs.size
    rw [sz]; exact Nat.ne_of_lt (Nat.lt_succ_self _)
  · exact Heap.get?_none_of_le (Nat.le_refl _)
  · exact Heap.get?_none_of_le (by show s.heap.objs.size ≤ (s.heap.push dictObj0).objs.size; rw [sz]; exact Nat.le_succ _)
  · have := hR h' tk hk hD
    obtain ⟨hp, g, d, tk', os⟩ := s'
    cases e1; cases e2; cases e3
    exact this
  · exact Heap.DictOf.push (Heap.DictOf.new s.heap) o

/-- the numbers of the signs -/
noncomputable def intsD (l : List Nat) : List (Int × Value) := l.foldl (fun kvs c => PySem.stored kvs ((c : Nat) : Int) .none) []
theorem valueAt_stored {K : Type} [DecidableEq K] (kvs : List (K × Value)) (k k' : K) (v : Value) : PySem.valueAt (PySem.stored kvs k v) k' = if k' = k then some v else PySem.valueAt kvs k' := by
  unfold PySem.valueAt PySem.stored
  split
  · rename_i h
    induction kvs with
    | nil => simp at h
    | cons a kvs ih =>
      simp only [List.map_cons, List.find?_cons]
      by_cases e : a.1 = k
      · subst e
        by_cases e2 : k' = a.1
        · subst e2; simp
        · have e3 : ¬ a.1 = k' := fun q => e2 q.symm
          simp only [if_true, decide_eq_false e3, if_neg e2]
          by_cases h2 : (kvs.any fun kv => decide (kv.1 = a.1)) = true
          · have := ih h2
            rw [if_neg e2] at this
            exact this
          · rw [show (kvs.map fun kv => if kv.1 = a.1 then (kv.1, v) else kv) = kvs from ?_]
            refine (List.map_congr_left fun x hx => ?_).trans (List.map_id _)
            have : ¬ x.1 = a.1 := fun q => h2 (List.any_eq_true.mpr ⟨x, hx, by simp [q]⟩)
            simp [this]
      · simp only [if_neg e]
        have h2 : (kvs.any fun kv => decide (kv.1 = k)) = true := by simpa [e] using h
        by_cases e2 : a.1 = k'
        · subst e2; simp [e]
        · simp only [decide_eq_false e2]
          exact ih h2
  · rename_i h
    rw [List.find?_append]
    by_cases e : k' = k
    · subst e
      have : kvs.find? (fun kv => decide (kv.1 = k')) = none := by
        rw [List.find?_eq_none]; intro x hx q
        exact h (List.any_eq_true.mpr ⟨x, hx, q⟩)
      rw [this]; simp
    · rw [if_neg e]
      have : ¬ k = k' := fun q => e q.symm
      simp [this]
theorem ints_val : ∀ (l : List Nat) (kvs : List (Int × Value)) (k : Nat), PySem.valueAt (l.foldl (fun kvs c => PySem.stored kvs ((c : Nat) : Int) .none) kvs) (k : Int) = if k ∈ l then some .none else PySem.valueAt kvs (k : Int)
  | [], kvs, k => by simp
  | c :: l, kvs, k => by
    rw [List.foldl_cons, ints_val l, valueAt_stored]
    by_cases h1 : k ∈ l
    · simp [h1]
    · rw [if_neg h1]
      by_cases h2 : k = c
      · subst h2; simp
      · rw [if_neg (by omega), if_neg (by simp [h1, h2])]
/-- the keys are texts of one sign, their values None, their signs those of the text -/
theorem keysD_sound : ∀ (l : List Nat) (kvs : List (PySem.Str × Value)) (S : List Nat), (∀ p ∈ kvs, ∃ c ∈ S, p = (tx [c], .none)) → (∀ p ∈ l.foldl (fun kvs c => PySem.stored kvs (tx [c]) .none) kvs, ∃ c ∈ l ++ S, p = (tx [c], Value.none))
  | [], kvs, S, h => by simpa using h
  | c :: l, kvs, S, h => by
    intro p hp
    obtain ⟨c', hc, e⟩ := keysD_sound l (PySem.stored kvs (tx [c]) .none) (c :: S) (fun p hp => by
      unfold PySem.stored at hp
      split at hp
      · obtain ⟨q, hq, rfl⟩ := List.mem_map.mp hp
        obtain ⟨c', hc', rfl⟩ := h q hq
        refine ⟨c', List.mem_cons_of_mem _ hc', ?_⟩
        split <;> rfl
      · rcases List.mem_append.mp hp with q | q
        · obtain ⟨c', hc', e⟩ := h p q
          exact ⟨c', List.mem_cons_of_mem _ hc', e⟩
        · exact ⟨c, List.mem_cons_self .., by simpa using q⟩) p hp
    exact ⟨c', by simp at hc ⊢; rcases hc with h | h | h <;> simp [h], e⟩
theorem keysD_mono : ∀ (l : List Nat) (kvs : List (PySem.Str × Value)) (c : Nat), (tx [c], Value.none) ∈ kvs → (tx [c], Value.none) ∈ l.foldl (fun kvs c => PySem.stored kvs (tx [c]) .none) kvs
  | [], kvs, c, h => h
  | a :: l, kvs, c, h => by
    refine keysD_mono l _ c ?_
    show _ ∈ PySem.stored kvs (tx [a]) .none
    unfold PySem.stored
    split
    · exact List.mem_map.mpr ⟨_, h, by split <;> rfl⟩
    · exact List.mem_append_left _ h
theorem keysD_complete : ∀ (l : List Nat) (kvs : List (PySem.Str × Value)) (S : List Nat) (c : Nat), (∀ p ∈ kvs, ∃ c ∈ S, p = (tx [c], Value.none)) → c ∈ l → (tx [c], Value.none) ∈ l.foldl (fun kvs c => PySem.stored kvs (tx [c]) .none) kvs
  | a :: l, kvs, S, c, hs, h => by
    rw [List.foldl_cons]
    by_cases e : c = a
    · subst e
      refine keysD_mono l _ c ?_
      show _ ∈ PySem.stored kvs (tx [c]) .none
      unfold PySem.stored
      split
      · rename_i q
        obtain ⟨p, hp, e⟩ := List.any_eq_true.mp q
        obtain ⟨c', _, rfl⟩ := hs p hp
        have e : tx [c'] = tx [c] := by simpa using e
        exact List.mem_map.mpr ⟨_, hp, by simp [e]⟩
      · simp
    · refine keysD_complete l _ (a :: S) c (fun p hp => ?_) (by simpa [e] using h)
      have := keysD_sound [a] kvs S hs p hp
      obtain ⟨c', hc, e⟩ := this
      exact ⟨c', by simpa using hc, e⟩
/-- the signs of the keys, in their order -/
theorem keysD_ints (l : List Nat) : ∃ ks : List Nat, keysD l = ks.map (fun c => (tx [c], Value.none)) ∧ ∀ c, c ∈ ks ↔ c ∈ l := by
  have hs := keysD_sound l [] [] (by simp)
  have : ∃ ks : List Nat, keysD l = ks.map (fun c => (tx [c], Value.none)) := by
    unfold keysD
    generalize l.foldl (fun kvs c => PySem.stored kvs (tx [c]) .none) [] = kvs at hs
    induction kvs with
    | nil => exact ⟨[], rfl⟩
    | cons p kvs ih =>
      obtain ⟨ks, e⟩ := ih fun p hp => hs p (List.mem_cons_of_mem _ hp)
      obtain ⟨c, _, rfl⟩ := hs p (List.mem_cons_self ..)
      exact ⟨c :: ks, by rw [e]; rfl⟩
  obtain ⟨ks, e⟩ := this
  refine ⟨ks, e, fun c => ⟨fun h => ?_, fun h => ?_⟩⟩
  · obtain ⟨c', hc, q⟩ := hs (tx [c], Value.none) (by show _ ∈ keysD l; rw [e]; exact List.mem_map.mpr ⟨c, h, rfl⟩)
    have : c = c' := by simpa [tx] using q
    subst this; simpa using hc
  · have : (tx [c], Value.none) ∈ keysD l := keysD_complete l [] [] c (by simp) h
    rw [e] at this
    obtain ⟨c', hc, q⟩ := List.mem_map.mp this
    have : c' = c := by simpa [tx] using q
    subst this; exact hc
end
end Mine

namespace Mine
section
variable {prog : Program} {w : World} {A : Around} {E : Value → Shared → Prop} {s : Shared}
theorem mt_small {done ks' : List Nat} {c : Nat} (hz : (done ++ c :: ks').length ≤ 1000000) : (intsD done).length ≤ sizeLine := by
  refine Nat.le_trans (fold_length (fun c => ((c : Nat) : Int)) done []) ?_
  rw [List.length_append] at hz
  exact Nat.le_trans (Nat.le_of_eq (Nat.zero_add _)) (Nat.le_trans (Nat.le_add_right _ _) (Nat.le_trans hz (by decide)))
inductive MtI (prog : Program) (w : World) (ks : List Nat) (h₀ : Heap) (a : Addr) (rest : List DictEntry) (h' : Heap) : Prop
  | mk (done ks' : List Nat) (e : done ++ ks' = ks) (hp : Pairs (strKind prog w) rest (ks'.map fun c => (tx [c], Value.none))) (hk : ∀ b o, h₀.get? b = some o → h'.get? b = some o) (hT : h'.DictOf (intKind prog w) a (intsD done)) : MtI prog w ks h₀ a rest h'
inductive MtN (prog : Program) (w : World) (ks : List Nat) (h₀ : Heap) (a : Addr) (e : DictEntry) (rest : List DictEntry) (h' : Heap) : Prop
  | mk (c : Nat) (t : Tok) (ek : e.key = .str (tx [c]) t) (ev : e.val = .none) (done ks' : List Nat) (he : done ++ c :: ks' = ks) (hp : Pairs (strKind prog w) rest (ks'.map fun c => (tx [c], Value.none))) (hk : ∀ b o, h₀.get? b = some o → h'.get? b = some o) (hT : h'.DictOf (intKind prog w) a (intsD done)) : MtN prog w ks h₀ a e rest h'
theorem MtI.next {ks : List Nat} {h₀ h' : Heap} {a : Addr} {e : DictEntry} {rest : List DictEntry} (D : MtI prog w ks h₀ a (e :: rest) h') : MtN prog w ks h₀ a e rest h' := by
  obtain ⟨done, ks', he, hpr, hk, hT⟩ := D
  cases ks' with
  | nil => cases hpr
  | cons c ks' =>
    cases hpr with
    | cons h1 h2 h3 =>
      obtain ⟨t, e⟩ := Value.isStrOf_shape h1
      exact ⟨c, t, e, h2, done, ks', he, h3, hk, hT⟩
theorem MtI.done {ks : List Nat} {h₀ h' : Heap} {a : Addr} (D : MtI prog w ks h₀ a [] h') : (∀ b o, h₀.get? b = some o → h'.get? b = some o) ∧ h'.DictOf (intKind prog w) a (intsD ks) := by
  obtain ⟨done, ks', he, hpr, hk, hT⟩ := D
  cases ks' with
  | nil => rw [List.append_nil] at he; subst he; exact ⟨hk, hT⟩
  | cons => cases hpr
theorem mt_code {R : Result → Shared → Prop} {ks : List Nat} {dd : Addr} (hz : ks.length ≤ 1000000) (hd1 : (dd == sysModules) = false) (hD : s.heap.DictOf (strKind prog w) dd (ks.map fun c => (tx [c], Value.none)))
    (hR : ∀ h' tk, (∀ b o, s.heap.get? b = some o → h'.get? b = some o) → h'.DictOf (intKind prog w) s.heap.objs.size (intsD ks) → R (.ok (.ret (.ref s.heap.objs.size))) { s with heap := h', toks := tk }) :
    codeAny (model prog w) A (.builtin "str.maketrans" ⟨[.ref dd], []⟩) R s := by
  refine codeAny_builtin entry_mt ?_
  refine wpAny_bind (wpAny_pure ?_)
  refine wpAny_bind (wpAny_pure ?_)
  refine wpAny_bind (wpAny_pure ?_)
  refine wpAny_bind (wpAny_pure ?_)
  refine wpAny_bind (wpAny_newObj_type ?_)
  refine wpAny_bind (wpAny_holding ?_)
  have hD1 : (s.heap.push dictObj0).DictOf (strKind prog w) dd (ks.map fun c => (tx [c], Value.none)) := hD.push _
  have ht : Shared.TypeIs { s with heap := s.heap.push dictObj0 } (.ref dd) "dict" := hD1.typeIs
  refine wpAny_bind (wpAny_typeOf ht ?_)
  refine wpAny_bind (wpAny_pure ?_)
  refine wpAny_bind (wpAny_typeOf ht ?_)
  refine wp_if_neg (by decide) ?_
  refine wpAny_bind (wp_if_neg (by rw [hd1]; decide) (wpAny_pure ?_))
  obtain ⟨o, es, ep, ho, hex, hda, hkeys, hp, hnd⟩ := hD1
  refine wpAny_bind (wpAny_dictEntries ho hda ?_)
  refine wpAny_bind (MeetsSeq2.wpAny_forIn_array _ (fun rest _ s' => MtI prog w ks s.heap s.heap.objs.size rest s'.heap ∧ s' = { s with heap := s'.heap, toks := s'.toks }) _ (fun e rest b s' h => ?_) (fun b s' h => ?_) es PUnit.unit ⟨⟨[], ks, rfl, hp, fun b o e => Heap.get?_push_of_some _ e, Heap.DictOf.new s.heap⟩, rfl⟩)
  · obtain ⟨c, t, ek, ev, done, ks', he, h3, hk, hT⟩ := h.1.next
    obtain ⟨hsh, key, val⟩ := e
    cases ek
    cases ev
    refine wpAny_bind (wpAny_pure ?_)
    refine wpAny_bind (wpAny_mkInt ?_)
    refine wpAny_bind (wpAny_dictSet_pairs (knd := intKind prog w) (k := ((c : Nat) : Int)) (by show (_ == _) = true; exact beq_self_eq_true _) hT (fun h2 hD2 hx2 => wpAny_pure ?_) (mt_small (he ▸ hz)))
    refine ⟨⟨done ++ [c], ks', by rw [List.append_assoc]; exact he, h3, fun b o e => ?_, ?_⟩, by rw [h.2]⟩
    · have hb2 : b ≠ s.heap.objs.size := fun q => by subst q; exact absurd (Heap.lt_size e) (Nat.lt_irrefl _)
      exact (hx2.2 b hb2).trans (hk b o e)
    · have : intsD (done ++ [c]) = PySem.stored (intsD done) ((c : Nat) : Int) .none := by unfold intsD; rw [List.foldl_append]; rfl
      rw [this]; exact hD2
  · refine wpAny_pure (wpAny_pure ?_)
    have z := hR s'.heap s'.toks h.1.done.1 h.1.done.2
    rw [← h.2] at z
    exact z

open Builtin in
theorem table_look {l : List Nat} {tb : Addr} {c : Nat} {Q : Builtin.Str.Mapped → Shared → Prop} (hh : A.handled = none) (hd1 : (tb == sysModules) = false) (hT : s.heap.DictOf (intKind prog w) tb (intsD l))
    (h : ∀ h' tk, (∀ b o, s.heap.get? b = some o → h'.get? b = some o) → Q (if c ∈ l then .drop else .keep) { s with heap := h', toks := tk }) : wpAny (model prog w) A (Builtin.Str.tableLookup (.ref tb) c) Q E s := by
  unfold Builtin.Str.tableLookup
  have hv := ints_val l [] c
  have hkey : (intKind prog w).is ((c : Nat) : Int) (.int ((c : Nat) : Int) s.toks) = true := by show (_ == _) = true; exact beq_self_eq_true _
  refine wpAny_bind (wpAny_attempt (wpAny_bind (wpAny_mkInt ?_)))
  by_cases hc : c ∈ l
  · rw [if_pos hc] at hv h
    refine wpAny_getItem_of (s := { s with toks := s.toks + 1 }) hkey hT.mapOf hv ?_
    exact wpAny_pure (h s.heap _ fun _ _ e => e)
  · rw [if_neg hc] at hv h
    refine wpAny_getItem_missing_of (s := { s with toks := s.toks + 1 }) hkey hd1 hh hT.mapOf hv fun h' e hn => ?_
    dsimp only
    obtain ⟨ob, tt, hob, hcls, _⟩ := hn.there
    have sub : isSubtype (.type "KeyError") (.type "LookupError") = pure true := by rw [isSubtype_type]; kernel_rfl
    refine wpAny_bind (wpAny_isInstance (T := "KeyError") ⟨ob, hob, hcls⟩ sub ?_)
    rw [if_pos rfl]
    exact wpAny_bind (wpAny_rule (wpAny_pure (h h' _ hn.keeps)))
/-- what a table says of a sign -/
noncomputable def toldOf (l : List Nat) (c : Nat) : Option Nat := if c ∈ l then none else some c
inductive TrD (l x : List Nat) (h₀ : Heap) (rest : List Nat) (pieces : List PySem.Str) (total : Nat) (known : List (Nat × Option Nat)) (h' : Heap) : Prop
  | mk (p : List Nat) (hx : p ++ rest = x) (hp : pieces.reverse.foldl (fun acc (q : PySem.Str) => acc ++ q.cps) #[] = (p.filter fun c => !l.contains c).toArray) (ht : total ≤ p.length)
    (hkn : ∀ q ∈ known, q.2 = toldOf l q.1) (hk : ∀ b o, h₀.get? b = some o → h'.get? b = some o) : TrD l x h₀ rest pieces total known h'
section
variable {l x : List Nat} {h₀ : Heap} {rest : List Nat} {pieces : List PySem.Str} {total : Nat} {known known' : List (Nat × Option Nat)} {h' h'' : Heap} {c : Nat}
theorem TrD.drop (D : TrD l x h₀ (c :: rest) pieces total known h') (hc : c ∈ l) (hn : ∀ q ∈ known', q.2 = toldOf l q.1) (hh : ∀ b o, h'.get? b = some o → h''.get? b = some o) : TrD l x h₀ rest pieces total known' h'' := by
  obtain ⟨p, hx, hp, ht, hkn, hk⟩ := D
  exact ⟨p ++ [c], by rw [List.append_assoc]; exact hx, by rw [hp, List.filter_append]; simp [hc], by rw [List.length_append]; exact Nat.le_succ_of_le ht, hn, fun b o e => hh b o (hk b o e)⟩
theorem TrD.keep (D : TrD l x h₀ (c :: rest) pieces total known h') (hc : c ∉ l) (hn : ∀ q ∈ known', q.2 = toldOf l q.1) (hh : ∀ b o, h'.get? b = some o → h''.get? b = some o) : TrD l x h₀ rest (⟨#[c]⟩ :: pieces) (total + 1) known' h'' := by
  obtain ⟨p, hx, hp, ht, hkn, hk⟩ := D
  exact ⟨p ++ [c], by rw [List.append_assoc]; exact hx, by rw [List.reverse_cons, List.foldl_append, hp, List.filter_append]; simp [hc], by rw [List.length_append]; exact Nat.succ_le_succ ht, hn, fun b o e => hh b o (hk b o e)⟩
theorem TrD.kn (D : TrD l x h₀ rest pieces total known h') : ∀ q ∈ known, q.2 = toldOf l q.1 := by obtain ⟨p, hx, hp, ht, hkn, hk⟩ := D; exact hkn
theorem TrD.add (D : TrD l x h₀ rest pieces total known h') (c : Nat) : ∀ q ∈ (c, toldOf l c) :: known, q.2 = toldOf l q.1 := fun q hq => (List.mem_cons.mp hq).elim (fun e => by subst e; rfl) (D.kn q)
theorem TrD.lookup (D : TrD l x h₀ rest pieces total known h') {a : Option Nat} (hq : List.lookup c known = some a) : a = toldOf l c := by
  refine D.kn (c, a) ?_
  clear D
  induction known with
  | nil => cases hq
  | cons y ys ih =>
    obtain ⟨y1, y2⟩ := y
    rw [List.lookup_cons] at hq
    split at hq
    · rename_i z; rw [beq_iff_eq] at z; cases hq; subst z; exact List.mem_cons_self ..
    · exact List.mem_cons_of_mem _ (ih hq)
theorem TrD.small (D : TrD l x h₀ rest pieces total known h') (hz : x.length ≤ 1000000) : Builtin.Str.tooLong total = false := by
  obtain ⟨p, rfl, hp, ht, hkn, hk⟩ := D
  rw [List.length_append] at hz
  unfold Builtin.Str.tooLong sizeLine
  exact decide_eq_false (by omega)
end
theorem told_in {l : List Nat} {c : Nat} (h : c ∈ l) : toldOf l c = none := if_pos h
theorem told_out {l : List Nat} {c : Nat} (h : c ∉ l) : toldOf l c = some c := if_neg h
theorem DictOf.more {h h' : Heap} {tb : Addr} {kvs : List (Int × Value)} (hT : h.DictOf (intKind prog w) tb kvs) (hk : ∀ b o, h.get? b = some o → h'.get? b = some o) : h'.DictOf (intKind prog w) tb kvs := by
  obtain ⟨o, es, ep, ho, r⟩ := hT; exact ⟨o, es, ep, hk _ _ ho, r⟩
theorem tr_codeA {R : Result → Shared → Prop} {l x : List Nat} {t : Tok} {tb : Addr} (hz : x.length ≤ 1000000) (ha : (tx x).cps.all (· < 128) = true) (hx0 : (tx x).length ≠ 0) (hh : A.handled = none) (hd1 : (tb == sysModules) = false) (hT : s.heap.DictOf (intKind prog w) tb (intsD l))
    (hR : ∀ h' tk t', (∀ b o, s.heap.get? b = some o → h'.get? b = some o) → R (.ok (.ret (.str (tx (x.filter fun c => !l.contains c)) t'))) { s with heap := h', toks := tk }) :
    codeAny (model prog w) A (.builtin "str.translate" ⟨[.str (tx x) t, .ref tb], []⟩) R s := by
  refine codeAny_builtin entry_tr ?_
  refine wpAny_bind (wpAny_pure ?_)
  refine wp_if_neg (fun e => hx0 (beq_iff_eq.mp e)) ?_
  refine wpAny_bind (MeetsSeq2.wpAny_forIn_array _ (fun rest b s' => (TrD l x s.heap rest b.1 b.2.1 b.2.2.2.1 s'.heap ∧ b.2.2.1 = true) ∧ s' = { s with heap := s'.heap, toks := s'.toks }) _ (fun c rest b s' h => ?_) (fun b s' h => ?_) _ _ ?_)
  · have D := h.1.1
    have hT' : s'.heap.DictOf (intKind prog w) tb (intsD l) := by obtain ⟨p, hx, hp, ht, hkn, hk⟩ := D; exact DictOf.more hT hk
    refine wp_if_neg (by rw [D.small hz]; decide) ?_
    refine wp_if_pos h.1.2 ?_
    cases hq : List.lookup c b.2.2.2.1 with
    | some a =>
      refine wpAny_bind (wpAny_pure ?_)
      cases D.lookup hq
      by_cases hc : c ∈ l
      · rw [told_in hc]; exact wpAny_pure ⟨⟨D.drop hc D.kn fun _ _ e => e, h.1.2⟩, h.2⟩
      · rw [told_out hc]; exact wpAny_pure ⟨⟨D.keep hc D.kn fun _ _ e => e, h.1.2⟩, h.2⟩
    | none =>
      refine wpAny_bind (table_look (A := A.under _) hh hd1 hT' fun h' tk hk' => ?_)
      have hkn' := D.add c
      by_cases hc : c ∈ l
      · rw [if_pos hc]
        rw [told_in hc] at hkn'
        exact wpAny_bind (wpAny_pure (wpAny_pure ⟨⟨D.drop hc hkn' hk', h.1.2⟩, by rw [h.2]⟩))
      · rw [if_neg hc]
        rw [told_out hc] at hkn'
        exact wpAny_bind (wpAny_pure (wpAny_pure ⟨⟨D.keep hc hkn' hk', h.1.2⟩, by rw [h.2]⟩))
  · have D := h.1.1
    have e := h.2
    refine wp_if_neg (by rw [D.small hz]; decide) ?_
    obtain ⟨p, rfl, hp, ht, hkn, hk⟩ := D
    rw [List.append_nil] at hz hR
    refine wpAny_bind (wpAny_mkStr (wpAny_pure ?_) ?_)
    · rw [hp, e]; exact hR s'.heap (s'.toks + 1) _ hk
    · rw [hp]
      show (List.toArray (p.filter fun c => !l.contains c)).size ≤ _
      rw [List.size_toArray]
      exact Nat.le_trans (List.length_filter_le ..) (Nat.le_trans hz (by decide))
  · exact ⟨⟨⟨[], rfl, rfl, Nat.le_refl 0, fun _ h => (nomatch h), fun _ _ e => e⟩, ha⟩, rfl⟩
end
end Mine

namespace Mine
noncomputable def tabOf {prog : Program} {w : World} {K : Type} [DecidableEq K] (knd : KeyKind prog w K) (kvs : List (K × Value)) (o : Obj) : Prop :=
  ∃ es ep, o.ExactDict ∧ o.data = .dict es ep ∧ KeysOf knd es ∧ Pairs knd es.toList kvs ∧ (kvs.map (·.1)).Nodup
theorem tabOf.iff {prog : Program} {w : World} {K : Type} [DecidableEq K] {knd : KeyKind prog w K} {kvs : List (K × Value)} {h : Heap} {a : Addr} : h.DictOf knd a kvs ↔ ∃ o, h.get? a = some o ∧ tabOf knd kvs o :=
  ⟨fun ⟨o, es, ep, h1, h2, h3, h4, h5, h6⟩ => ⟨o, h1, es, ep, h2, h3, h4, h5, h6⟩, fun ⟨o, h1, es, ep, h2, h3, h4, h5, h6⟩ => ⟨o, es, ep, h1, h2, h3, h4, h5, h6⟩⟩
theorem tabOf.cls {prog : Program} {w : World} {K : Type} [DecidableEq K] {knd : KeyKind prog w K} {kvs : List (K × Value)} {o : Obj} (h : tabOf knd kvs o) : o.cls ≠ .type "tuple" := by
  obtain ⟨es, ep, h1, _⟩ := h
  rw [h1.1]; decide
/-- the dict of a text's signs, and the table of their numbers -/
noncomputable def dkAO (C : Cx) (l : List Nat) : AO := .any (tabOf (strKind C.prog C.w) (keysD l))
noncomputable def tbAO (C : Cx) (l : List Nat) : AO := .any fun o => ∃ ks, (∀ c, c ∈ ks ↔ c ∈ l) ∧ tabOf (intKind C.prog C.w) (intsD ks) o
/-- some object of the base lies behind the first ones -/
noncomputable def Big (C : Cx) : Prop := ∃ a o, 1 ≤ a ∧ C.K.lookup a = some o
section
variable {C : Cx} {f : Fx} {X : XT} {ρ ρ' : Loc} {σ : AH} {d : Nat} {ns : List (PySem.Str × NameKind)} {K : List Addr} {O O' : List AO}
theorem Big.size {F : AH} {s : Shared} (b : Big C) (y : St C f ρ F σ s) : (s.heap.objs.size == sysModules) = false := by
  obtain ⟨a, o, h1, h2⟩ := b
  have := Heap.lt_size (Cx.inK y a o h2)
  rw [beq_eq_false_iff_ne]
  intro e
  rw [e] at this
  have h3 : a < 1 := this
  exact absurd h1 (Nat.not_le.mpr h3)
theorem Ev.fromkeys {x : PySem.Str} {l : List Nat} {p1 p2 p3 pos : Pos} {Q : V → AH → Prop} (ok : f.Ok d ns) (hA : f.A.handled = none) (hga : GlobAt ns "dict") (hg : Glob C "dict" (.type "dict")) (hi : GetAt ns ρ x (.str l)) (hz : l.length ≤ 1000000) (hb : Big C)
    (hform : methodCallForm ([Expr.Name x p3].length + ([] : List Keyword).length) (backTo pos (starEach [.Name x p3] f.env)) (backToKw pos (keywordEach [] f.env)) = true)
    (hline : (p2.endLine == pos.line) = true)
    (h : ∀ a, σ a = none → (a == sysModules) = false → Q (.ref a) (σ.set a (dkAO C l))) :
    Ev C f X ρ (eval (.Call (.Attribute (.Name "dict" p1) "fromkeys" p2) [.Name x p3] [] pos) f.env) σ Q := fun F s y => by
  have hbase : attributeBase (.Name "dict" p1) "fromkeys" f.env (eval (.Name "dict" p1) f.env) = eval (.Name "dict" p1) f.env := by with_unfolding_all rfl
  have hplain : (backTo pos (starEach [.Name x p3] f.env)).any (·.1) = false := by with_unfolding_all rfl
  have hall : (backToKw pos (keywordEach [] f.env)).all (·.1.isSome) = true := by with_unfolding_all rfl
  rw [arm_eval_Call, hbase]
  refine wpAny_bind (wpAny_mono (Ev.glob (X := X) (Q := fun v σ' => v = .stat (.type "dict") ∧ σ' = σ) ok hga hg ⟨rfl, rfl⟩ F s y) (fun co s₁ ⟨ov, σ₁, x₁, r₁, t₁, e1, e2⟩ => ?_) fun _ _ e => e)
  subst e1 e2
  cases r₁.statI
  obtain ⟨hh, g, dr, t, os⟩ := s₁
  refine wpAny_bind (wpAny_standAt ?_)
  have hpos : methodCallPos true (.Name "dict" p1) f.env p2 pos = pure pos := by unfold methodCallPos; simp [hline]
  unfold methodCall
  rw [hform]
  have KI := Cx.inK x₁
  have hstub : opaqueClassAbove (.type "dict") = pure none := by
    have : Manifest.isStub "dict" = false := by decide +kernel
    unfold opaqueClassAbove; dsimp only; rw [this]; rfl
  have ht : typeOf (.type "dict") = pure (.type "type") := by kernel_rfl
  have L0 : ∀ h, Looks C.M h (typeOf (.type "dict")) (.type "type") := fun h => Looks.of_pure ht
  have hgt : findIn C.K (.type "type") "__getattribute__" = some (some (.builtin "type.__getattribute__")) := type_tga
  have hcls : findCls C.K (.type "dict") (.type "type") "fromkeys" = some (.get (.builtin "classmethod_descriptor.__get__") (.builtin "dict.fromkeys") .none (.type "dict")) := by rfl
  refine wpAny_bind (wpAny_holding ?_)
  show wpAny _ _ (getMethod (.type "dict") "fromkeys" _) _ _ _
  unfold getMethod specialOf
  refine wpAny_bind (wpAny_bind ((L0 _).here ((looks_findIn KI hgt).here ?_)))
  dsimp only
  rw [if_pos canon_tga]
  refine wpAny_bind ?_
  refine cls_open KI (Looks.of_pure hstub) (L0 _) hgt (looks_hook KI (r := none) (by rfl)) (by show subIn C.K _ _ = _; rfl) hcls ?_
  refine wpAny_bind (wpAny_holding ?_)
  refine wpAny_call (codeAny_call_builtin slot_cmd.plain entry_cmd (slot_cmd.check _ _ _ _ _ _ _ _ (by show typeOf _ = _; exact cmd_type) (args_cmd _ _ _) ?_))
  refine wp_peek1' (noK _) (fin_of (cmd_run _ _)) ?_
  show wpAny _ _ (pure (Fin.done (.ret _))) _ _ _
  refine wpAny_pure ?_
  refine handed_on rfl ?_
  refine wpAny_pure ?_
  refine wpAny_bind (wpAny_of_eq hpos ?_)
  obtain ⟨y2, t2⟩ := x₁.new (o := .any (· = bfObj)) (h' := hh.push bfObj) (fun b o e => Heap.get?_push_of_some _ e) ⟨bfObj, by heap_get, rfl, by decide⟩ (t + 1)
  have fr := x₁.fresh.1
  refine callWith_of (P := fun h' => h'.get? hh.objs.size = some bfObj) (by rw [hplain]; rfl) (fun h' ph => ⟨.machine, .inr (.inl rfl), (Looks.ld (part := none) ph).andThen .now⟩) ?_
  refine evalArgs_gen hplain hall ?_
  have El : El C f X ρ (spliced (backTo pos (starEach [.Name x p3] f.env))) (σ₁.set hh.objs.size (.any (· = bfObj))) (fun vs σ' => vs = [.str l] ∧ σ' = σ₁.set hh.objs.size (.any (· = bfObj))) :=
    El.cons (Ev.loc ok hi (El.nil ⟨rfl, rfl⟩))
  refine wpAny_mono (El F _ y2) (fun cvs s₃ ⟨vs, σ₃, x₃, r₃, t₃, e1, e2⟩ => ?_) fun _ _ e => e
  subst e1 e2
  obtain ⟨_, rfl, r4⟩ := r₃.one
  obtain ⟨tk, rfl⟩ := r4.strI
  refine wpAny_evalAll_nil ?_
  obtain ⟨ob, hob, e3, _⟩ := x₃.obj (AH.set_self ..)
  subst e3
  refine ⟨hob, ?_⟩
  dsimp only
  rw [List.zip_nil_right]
  refine wpAny_call (codeAny_of_tree ?_)
  show wpAny _ _ (callAny (.ref hh.objs.size) _) _ _ _
  refine nd_load hob ?_
  show wpAny _ _ (checkBoundCall "dict.fromkeys" ⟨[.type "dict", .str (tx l) tk], []⟩ >>= fun _ => pure (Fin.again (.builtin "dict.fromkeys" ⟨[.type "dict", .str (tx l) tk], []⟩))) _ _ _
  refine wpAny_bind ((Looks.of_peek (noK _) (chk_fk _ _)).here ?_)
  refine wpAny_pure ⟨Code.quiet_builtin _ (by decide +kernel), ?_⟩
  have x₃' : St C f ρ F σ₁ s₃ := x₃.weaken fun a o e => by
    rw [AH.set_ne _ _ (fun q => by rw [q] at e; rw [fr] at e; cases e)]; exact e
  refine fk_code hz hA fun h' tk' hk hD => ?_
  obtain ⟨o, ho, hto⟩ := tabOf.iff.mp hD
  obtain ⟨z, tz⟩ := x₃'.new (o := dkAO C l) hk ⟨o, ho, hto, hto.cls⟩ tk'
  exact ⟨.ref s₃.heap.objs.size, _, z, .ref, (t₁.trans t2).trans (t₃.trans tz), h _ x₃'.fresh.1 (hb.size x₃')⟩
theorem OM.maketrans {x : List Nat} {Q : V → List V → AH → Prop} (h : Q (.stat (.builtin "str.maketrans")) [] σ) : OM C f X ρ "maketrans" (.str x) σ Q := fun pl F s co y r => by
  obtain ⟨t, rfl⟩ := r.strI
  exact getMethod_maketrans ⟨_, _, σ, y.toks (s.toks + 1), .stat, .nil, Tup.refl _, h⟩
theorem OC.maketrans {dd : Addr} {l : List Nat} {Q : V → AH → Prop} (hg : σ dd = some (dkAO C l)) (hd1 : (dd == sysModules) = false) (hz : l.length ≤ 1000000) (hb : Big C)
    (h : ∀ a, σ a = none → (a == sysModules) = false → Q (.ref a) (σ.set a (tbAO C l))) : OC C f X ρ (.stat (.builtin "str.maketrans")) [.ref dd] [] σ Q := OC.builtin fun F s cargs y r => by
  obtain ⟨_, rfl, r'⟩ := r.one; cases r'.refI
  obtain ⟨ob, hob, hto, _⟩ := y.obj hg
  obtain ⟨ks, e1, e2⟩ := keysD_ints l
  rw [e1] at hto
  have hks : ks.length ≤ 1000000 := by
    have := fold_length (fun c => tx [c]) l []
    have e3 : (keysD l).length = ks.length := by rw [e1]; simp
    unfold keysD at e3
    simp only [List.length_nil] at this
    omega
  refine wpAny_call (codeAny_of_tree ?_)
  show wpAny _ _ (checkBuiltinCall "str.maketrans" ⟨[.ref dd], []⟩ >>= fun _ => pure (Fin.again (.builtin "str.maketrans" ⟨[.ref dd], []⟩))) _ _ _
  refine wpAny_bind ((Looks.of_peek (noK _) (mt_chk _ _)).here ?_)
  refine wpAny_pure ⟨Code.quiet_builtin _ (by decide +kernel), ?_⟩
  refine mt_code hks hd1 (tabOf.iff.mpr ⟨ob, hob, hto⟩) fun h' tk hk hD => ?_
  obtain ⟨o, ho, hto2⟩ := tabOf.iff.mp hD
  obtain ⟨z, tz⟩ := y.new (o := tbAO C l) hk ⟨o, ho, ⟨ks, e2, hto2⟩, hto2.cls⟩ tk
  exact ⟨.ref s.heap.objs.size, _, z, .ref, tz, h _ y.fresh.1 (hb.size y)⟩
theorem OC.translateA {tb : Addr} {x l : List Nat} {Q : V → AH → Prop} (hA : f.A.handled = none) (hg : σ tb = some (tbAO C l)) (hd1 : (tb == sysModules) = false) (hz : x.length ≤ 1000000) (ha : (tx x).cps.all (· < 128) = true) (hx : (tx x).length ≠ 0)
    (h : Q (.str (x.filter fun c => !l.contains c)) σ) : OC C f X ρ (.stat (.builtin "str.translate")) [.str x, .ref tb] [] σ Q := OC.builtin fun F s cargs y r => by
  obtain ⟨_, _, rfl, r1, r2⟩ := r.two; cases r2.refI
  obtain ⟨t, rfl⟩ := r1.strI
  obtain ⟨ob, hob, ⟨ks, e2, hto⟩, _⟩ := y.obj hg
  refine wpAny_call (codeAny_of_tree ?_)
  show wpAny _ _ (checkBuiltinCall "str.translate" ⟨[.str (tx x) t, .ref tb], []⟩ >>= fun _ => pure (Fin.again (.builtin "str.translate" ⟨[.str (tx x) t, .ref tb], []⟩))) _ _ _
  refine wpAny_bind (slot_tr.check _ _ _ _ _ _ _ _ (by show typeOf _ = _; rfl) (args_tr _ _) ?_)
  refine wpAny_pure ⟨Code.quiet_builtin _ (by decide +kernel), ?_⟩
  refine tr_codeA hz ha hx hA hd1 (tabOf.iff.mpr ⟨ob, hob, hto⟩) fun h' tk t' hk => ?_
  obtain ⟨z, tz⟩ := y.ext hk tk
  have e : (x.filter fun c => !ks.contains c) = x.filter fun c => !l.contains c := by
    refine List.filter_congr fun c _ => ?_
    have e0 : ks.contains c = l.contains c := by rw [Bool.eq_iff_iff]; simp [e2 c]
    rw [e0]
  rw [e]
  exact ⟨_, σ, z, .str, tz, h⟩
/-- what lies further may be let go -/
theorem OC.weak {g : V} {args : List V} {kw : List (PySem.Str × V)} {Q : V → AH → Prop} (h : OC C f X ρ g args kw σ fun v σ' => ∃ τ, (∀ a o, τ a = some o → σ' a = some o) ∧ Q v τ) : OC C f X ρ g args kw σ Q := fun F s cg cargs ckw y a b c e =>
  wpAny_mono (h F s cg cargs ckw y a b c e) (fun _ _ ⟨v, _, x, r, t, τ, h1, h2⟩ => ⟨v, τ, x.weaken h1, r, t, h2⟩) fun _ _ e => e
theorem OCc.weak {g : V} {args : List V} {kw : List (PySem.Str × V)} {Q : V → AH → Prop} (h : OCc C f X ρ g args kw σ fun v σ' => ∃ τ, (∀ a o, τ a = some o → σ' a = some o) ∧ Q v τ) : OCc C f X ρ g args kw σ Q := fun F s cg cargs ckw y a b c e =>
  codeAny_mono (h F s cg cargs ckw y a b c e) fun r s' hr => by
    cases r with
    | error e => exact hr
    | ok v => cases v with
      | ret v => obtain ⟨v, _, x, r, t, τ, h1, h2⟩ := hr; exact ⟨v, τ, x.weaken h1, r, t, h2⟩
      | _ => exact hr.elim
end
end Mine

namespace Mine
section
variable {C : Cx} {f : Fx} {X : XT} {ρ ρ' : Loc} {σ : AH} {d : Nat} {ns : List (PySem.Str × NameKind)} {K : List Addr} {O O' : List AO}
theorem OCc.makeK {Cc fI : Addr} {args : List V} {kw : List (PySem.Str × V)} {Q : V → AH → Prop} (ok : f.Ok (d + 1) ns) (hm : makesIn C.K Cc = true) (hi : findIn C.K (.ref Cc) "__init__" = some (some (.ref fI))) (hf : typeIn C.K (.ref fI) = some (.type "function"))
    (h : ∀ (f' : Fx) x dx, f'.Ok d ns → (f.A.handled = none → f'.A.handled = none) → σ dx = none → (σ.set dx (.dict [])) x = none → OCc C f' NoX ρ (.stat (.ref fI)) (.ref x :: args) kw ((σ.set dx (.dict [])).set x (.inst Cc dx)) fun v σ' => v = .none ∧ Q (.ref x) σ') :
    OCc C f X ρ (.stat (.ref Cc)) args kw σ Q := fun F s cg cargs ckw y rg ra rk rkv => by
  cases rg.statI
  have KI := Cx.inK y
  obtain ⟨hh, g, dr, t, os⟩ := s
  obtain ⟨y1, t1⟩ := y.new (o := .dict []) (h' := hh.push emptyDict) (fun b o e => Heap.get?_push_of_some _ e) ⟨[], _, by heap_get, .nil⟩ t
  have sz : (hh.push emptyDict).objs.size = hh.objs.size + 1 := by rw [Heap.size_push]
  obtain ⟨y2, t2⟩ := y1.new (o := .inst Cc hh.objs.size) (h' := (hh.push emptyDict).push (instObj Cc hh.objs.size)) (fun b o e => Heap.get?_push_of_some _ e) (by
    show ((hh.push emptyDict).push (instObj Cc hh.objs.size)).get? (hh.push emptyDict).objs.size = _
    heap_get) t
  have y2' : St C f ρ F ((σ.set hh.objs.size (.dict [])).set (hh.objs.size + 1) (.inst Cc hh.objs.size)) ⟨(hh.push emptyDict).push (instObj Cc hh.objs.size), g, dr, t, os⟩ := by
    have z := y2
    simp only [sz] at z
    exact z
  refine make_core (makes_of KI hm) (looks_findIn KI hi) (fun self => bind_fn KI self hf) (.inl rfl) ?_
  let f' : Fx := ⟨f.A.under (.builtin "type.__call__" ⟨.ref Cc :: cargs, ckw⟩), f.env, f.outer⟩
  have ok' : f'.Ok d ns := ⟨ok.names, ok.kind, ok.globals, ok.builtins, ok.frame, ok.nd, ok.dbg, by have := ok.depth; show f.A.depth + 1 + d < _; omega, by have := ok.units; show f.A.units + 1 + 4 * d + 16 < _; omega, ok.frames⟩
  have f1 := (y.fresh).1
  have f2 := (y1.fresh).1
  have := h f' (hh.objs.size + 1) hh.objs.size ok' (fun e => e) f1 (by rw [← sz]; exact f2) F ⟨(hh.push emptyDict).push (instObj Cc hh.objs.size), g, dr, t, os⟩ (.ref fI) (.ref (hh.objs.size + 1) :: cargs) ckw ⟨y2'.dis, y2'.sat⟩ .stat (.cons .ref (ra.mono (t1.trans t2))) rk (rkv.mono (t1.trans t2))
  refine codeAny_mono this fun r s' hr => ?_
  cases r with
  | error e => exact hr.elim
  | ok v => cases v with
    | ret v =>
      obtain ⟨w, σ', x', rv, tt, rfl, q⟩ := hr
      cases rv.noneI
      exact ⟨rfl, .ref (hh.objs.size + 1), σ', ⟨x'.dis, x'.sat⟩, .ref, (t1.trans t2).trans tt, q⟩
    | _ => exact hr.elim
theorem OCc.ov_makeK {Cc fI : Addr} {ks : List PySem.Str} {args : List V} {kw : List (PySem.Str × V)} {Q : V → AH → Prop} (ok : f.Ok (d + 1) ns) (hm : makesIn C.K Cc = true) (hi : findIn C.K (.ref Cc) "__init__" = some (some (.ref fI))) (hf : typeIn C.K (.ref fI) = some (.type "function")) (hn : K.Nodup) (hl : K.length = O.length)
    (h : ∀ (f' : Fx) x dx, f'.Ok d ns → (f.A.handled = none → f'.A.handled = none) → (dx :: x :: K).Nodup → OCc C f' NoX ρ (.stat (.ref fI)) (.ref x :: args) kw (ov (dx :: x :: K) (fields ks [] :: .inst Cc dx :: O) σ) fun v σ' => v = .none ∧ Q (.ref x) σ') :
    OCc C f X ρ (.stat (.ref Cc)) args kw (ov K O σ) Q := OCc.makeK ok hm hi hf fun f' x dx ok' hh h1 h2 => by
  have n1 := ov_new hn hl h1
  have n2 : (x :: dx :: K).Nodup := ov_new (K := dx :: K) (O := .dict [] :: O) (σ := σ) n1 (by simpa using hl) h2
  have n3 : (dx :: x :: K).Nodup := by simp at n2 ⊢; exact ⟨⟨fun e => n2.1.1 e.symm, n2.2.1⟩, n2.1.2, n2.2.2⟩
  have := h f' x dx ok' hh n3
  unfold fields at this
  rw [List.zip_nil_right, ov_swap (Ne.symm fun e => by simp [e] at n2)] at this
  exact this
theorem O2.is_bool_bool {a b : Bool} {Q : V → AH → Prop} (h : Q (.bool (a == b)) σ) : O2 C f X ρ (compareOp .Is) (.bool a) (.bool b) σ Q := fun F s ca cb x ra rb => by
  cases ra.boolI; cases rb.boolI
  refine wpAny_is_plain rfl ?_
  have e : (Value.bool a == Value.bool b) = (a == b) := by cases a <;> cases b <;> decide
  rw [e]
  exact ⟨_, σ, x, .bool, Tup.refl _, h⟩
/-- in the laid-out form -/
theorem Ev.ov_fromkeys {x : PySem.Str} {l : List Nat} {p1 p2 p3 pos : Pos} {Q : V → AH → Prop} (ok : f.Ok d ns) (hA : f.A.handled = none) (hga : GlobAt ns "dict") (hg : Glob C "dict" (.type "dict")) (hi : GetAt ns ρ x (.str l)) (hz : l.length ≤ 1000000) (hb : Big C)
    (hform : methodCallForm ([Expr.Name x p3].length + ([] : List Keyword).length) (backTo pos (starEach [.Name x p3] f.env)) (backToKw pos (keywordEach [] f.env)) = true) (hline : (p2.endLine == pos.line) = true) (hn : K.Nodup) (hl : K.length = O.length)
    (h : ∀ a, (a :: K).Nodup → σ a = none → (a == sysModules) = false → Q (.ref a) (ov (a :: K) (dkAO C l :: O) σ)) :
    Ev C f X ρ (eval (.Call (.Attribute (.Name "dict" p1) "fromkeys" p2) [.Name x p3] [] pos) f.env) (ov K O σ) Q :=
  Ev.fromkeys ok hA hga hg hi hz hb hform hline fun a h1 h2 => h a (ov_new hn hl h1) (ov_none hl h1).2 h2
theorem OC.ov_maketrans {dd : Addr} {l : List Nat} {Q : V → AH → Prop} (hn : K.Nodup) (hl : K.length = O.length) (hg : GetO K O dd (dkAO C l)) (hd1 : (dd == sysModules) = false) (hz : l.length ≤ 1000000) (hb : Big C)
    (h : ∀ a, (a :: K).Nodup → σ a = none → (a == sysModules) = false → Q (.ref a) (ov (a :: K) (tbAO C l :: O) σ)) : OC C f X ρ (.stat (.builtin "str.maketrans")) [.ref dd] [] (ov K O σ) Q :=
  OC.maketrans (ov_get hn hg) hd1 hz hb fun a h1 h2 => h a (ov_new hn hl h1) (ov_none hl h1).2 h2
theorem OC.ov_translateA {tb : Addr} {x l : List Nat} {Q : V → AH → Prop} (hA : f.A.handled = none) (hn : K.Nodup) (hg : GetO K O tb (tbAO C l)) (hd1 : (tb == sysModules) = false) (hz : x.length ≤ 1000000) (ha : (tx x).cps.all (· < 128) = true) (hx : (tx x).length ≠ 0)
    (h : Q (.str (x.filter fun c => !l.contains c)) (ov K O σ)) : OC C f X ρ (.stat (.builtin "str.translate")) [.str x, .ref tb] [] (ov K O σ) Q := OC.translateA hA (ov_get hn hg) hd1 hz ha hx h
/-- objects that nobody else had there may be let go -/
theorem ov_drop {a : Addr} {o : AO} (hn : (a :: K).Nodup) (hl : K.length = O.length) (h : σ a = none) : ∀ b p, ov K O σ b = some p → ov (a :: K) (o :: O) σ b = some p := fun b p e => by
  have : b ≠ a := by
    rintro rfl
    have h1 : ∀ {K : List Addr} {O : List AO}, b ∉ K → ov K O σ b = σ b := by
      intro K
      induction K with
      | nil => intro O _; cases O <;> rfl
      | cons k K ih =>
        intro O hb
        cases O with
        | nil => rfl
        | cons o O =>
          simp only [List.mem_cons, not_or] at hb
          exact (AH.set_ne _ _ hb.1).trans (ih hb.2)
    rw [h1 (List.nodup_cons.mp hn).1, h] at e
    cases e
  exact (AH.set_ne _ _ this).trans e
theorem OC.cat0 {g : V} {vs : List V} {kw : List (PySem.Str × V)} {Q : V → AH → Prop} (h : OC C f X ρ g vs kw σ Q) : OC C f X ρ g ([] ++ vs) kw σ Q := h
end
end Mine

namespace Mine
/-- a list of ints that lies there from the start -/
noncomputable def StatL (C : Cx) (L : Addr) (is : List Int) : Prop := ∃ cvs, C.base.IsList L (List.toArray cvs) ∧ IntsAre cvs is
theorem IntsAre.vrs {h : Heap} {cvs : List Value} {is : List Int} (x : IntsAre cvs is) : VRs h (is.map V.int) cvs := by
  induction x with
  | nil => exact .nil
  | cons n t _ ih => exact .cons .int ih
section
variable {C : Cx} {f : Fx} {X : XT} {ρ ρ' : Loc} {σ : AH} {d : Nat} {ns : List (PySem.Str × NameKind)} {K : List Addr} {O O' : List AO}
noncomputable abbrev kSt3 (L : Addr) (is : List Int) (o : V) (lo : Option Int) (Q : V → AH → Prop) : Option Int → AH → Prop := fun hi σ₃ =>
      o = .stat (.ref L) ∧ is.length ≤ 16777216 ∧ ∃ K O τ, σ₃ = ov K O τ ∧ K.Nodup ∧ K.length = O.length ∧ ∀ a, (a :: K).Nodup → Q (.ref a) (ov (a :: K) (.list ((pslice is lo hi).map V.int) :: O) τ)
noncomputable abbrev kSt2 (C : Cx) (f : Fx) (X : XT) (ρ : Loc) (L : Addr) (is : List Int) (upper : Option Expr) (o : V) (Q : V → AH → Prop) : Option Int → AH → Prop := fun lo σ₂ => Ep C f X ρ upper σ₂ (kSt3 L is o lo Q)
noncomputable abbrev kSt (C : Cx) (f : Fx) (X : XT) (ρ : Loc) (L : Addr) (is : List Int) (lower upper : Option Expr) (Q : V → AH → Prop) : V → AH → Prop := fun o σ₁ => Ep C f X ρ lower σ₁ (kSt2 C f X ρ L is upper o Q)
theorem Ev.slice_stat {value : Expr} {lower upper : Option Expr} {p pos : Pos} {L : Addr} {is : List Int} {Q : V → AH → Prop} (hL : StatL C L is)
    (h : Ev C f X ρ (eval value f.env) σ (kSt C f X ρ L is lower upper Q)) :
    Ev C f X ρ (eval (.Subscript value (.Slice lower upper none p) pos) f.env) σ Q :=
  Ev.slice_any (P := fun o lo => kSt3 L is o lo Q) (fun o lo hi σ₃ h₃ => by
    obtain ⟨rfl, hz, K, O, τ, rfl, hn, hl, hq⟩ := h₃
    obtain ⟨cvs, ⟨ob, hob, hcls, n, hdat⟩, hI⟩ := hL
    intro value slice F s co sl cl cu h₀ hsub x r hs e₂ e₃ tt
    cases r.statI
    have hps : (pslice is lo hi).map V.int = pslice (is.map V.int) lo hi := by unfold pslice; rw [List.map_take, List.map_drop, List.length_map]
    exact slice_list (vs := is.map V.int) hsub x (x.sat.keep _ _ hob) hcls hdat (IntsAre.vrs hI) (by rw [List.length_map]; exact hz) hs (part_of e₂) (part_of e₃) tt fun a ha => by rw [← hps]; exact hq a (ov_new hn hl ha)) h
end
end Mine

namespace Mine
noncomputable def sOf : Expr → Option (List Nat)
  | .Constant (.str t) _ _ => some t.cps.toList
  | _ => none
theorem sOf_eq {e : Expr} {l : List Nat} (h : sOf e = some l) : ∃ k p, e = .Constant (.str (tx l)) k p := by
  cases e with
  | Constant c k p => cases c with
    | str t => cases h; exact ⟨k, p, rfl⟩
    | _ => cases h
  | _ => cases h
noncomputable def strsOf : List Expr → Option (List (List Nat))
  | [] => some []
  | e :: es => (sOf e).bind fun l => (strsOf es).map (l :: ·)
section
variable {C : Cx} {f : Fx} {X : XT} {ρ ρ' : Loc} {σ : AH} {d : Nat} {ns : List (PySem.Str × NameKind)} {K : List Addr} {O O' : List AO}
theorem ov_set_out {j : Addr} {p : AO} : ∀ {K : List Addr} {O : List AO}, j ∉ K → (ov K O σ).set j p = ov K O (σ.set j p)
  | [], _, _ => rfl
  | _ :: _, [], _ => rfl
  | k :: K, o :: O, h => by
    simp only [List.mem_cons, not_or] at h
    show (AH.set (ov K O σ) k o).set j p = AH.set (ov K O (σ.set j p)) k o
    rw [AH.set_comm _ _ _ (Ne.symm h.1), ov_set_out h.2]
/-- what is wanted no more goes below -/
theorem ov_sink {j : Addr} {p : AO} (hn : (j :: K).Nodup) : ov (j :: K) (p :: O) σ = ov K O (σ.set j p) := ov_set_out (List.nodup_cons.mp hn).1
theorem range_small {n : Nat} (h : n ≤ 1000) : Builtin.divisionGoesByPylong ((n : Int) - 0) 4 = false := by
  unfold Builtin.divisionGoesByPylong
  have : (300 : Nat) < (4 : Int).natAbs.log2 / 30 + 1 ↔ False := by decide
  simp [this]
  intro h
  exact absurd h (by decide)
theorem range_size {n : Nat} : Builtin.Range.rangeSize 0 (n : Int) 4 = (((n + 3) / 4 : Nat) : Int) := by
  unfold Builtin.Range.rangeSize
  rw [if_pos (by decide)]
  split <;> omega
theorem clip_ge {n : Nat} {i : Int} {k : Nat} (e : i = k) : clipAt n i = min k n := by
  subst e
  unfold clipAt
  rw [if_neg (Int.not_lt.mpr (Int.natCast_nonneg k)), Int.max_eq_right (Int.le_min.mpr ⟨Int.natCast_nonneg k, Int.natCast_nonneg n⟩)]
  rcases Nat.le_total k n with h | h
  · rw [Nat.min_eq_left h, Int.min_eq_left (Int.ofNat_le.mpr h)]; rfl
  · rw [Nat.min_eq_right h, Int.min_eq_right (Int.ofNat_le.mpr h)]; rfl
theorem clip_ge' {n : Nat} {i : Int} {k : Nat} (e : i = k) (h : k ≤ n) : clipAt n i = k := (clip_ge e).trans (Nat.min_eq_left h)
theorem take4 {α : Type} (x y z : α) : ∀ l : List α, l ≠ [] → ∀ w : α, (l.take 4 ++ [x, x, x]).take 4 = [l.getD 0 x, l.getD 1 x, l.getD 2 x, l.getD 3 x]
  | [], h, _ => absurd rfl h
  | [_], _, _ => rfl
  | [_, _], _, _ => rfl
  | [_, _, _], _, _ => rfl
  | _ :: _ :: _ :: _ :: _, _, _ => rfl
theorem at4 (k : Nat) : (0 + (k : Int) * 4) = ((4 * k : Nat) : Int) ∧ (0 + (k : Int) * 4 + 4) = ((4 * k + 4 : Nat) : Int) := by omega
theorem getD_int {fs : List Nat} {i j : Nat} : ((fs.drop j).map fun n : Nat => V.int n).getD i (.int 0) = .int (fs.getD (j + i) 0 : Nat) := by
  rw [List.getD_eq_getElem?_getD, List.getElem?_map, List.getElem?_drop, List.getD_eq_getElem?_getD]
  cases fs[j + i]? <;> rfl
theorem quad {fs : List Nat} {k : Nat} (h : 4 * k < fs.length) :
    pslice (pslice (fs.map fun n : Nat => V.int n) (some (0 + (k : Int) * 4)) (some (0 + (k : Int) * 4 + 4)) ++ [.int 0, .int 0, .int 0]) none (some 4) =
      [.int (fs.getD (4 * k) 0 : Nat), .int (fs.getD (4 * k + 1) 0 : Nat), .int (fs.getD (4 * k + 2) 0 : Nat), .int (fs.getD (4 * k + 3) 0 : Nat)] := by
  have e1 : pslice (fs.map fun n : Nat => V.int n) (some (0 + (k : Int) * 4)) (some (0 + (k : Int) * 4 + 4)) = ((fs.drop (4 * k)).map fun n : Nat => V.int n).take 4 := by
    unfold pslice
    rw [Option.elim, Option.elim, clip_ge' (at4 k).1 (by rw [List.length_map]; exact Nat.le_of_lt h), clip_ge (at4 k).2, List.map_drop, List.length_map, ← Nat.sub_min_sub_right, Nat.add_sub_cancel_left]
    conv => rhs; rw [List.take_eq_take_min, List.length_drop, List.length_map]
  rw [e1]
  generalize hl : (fs.drop (4 * k)).map (fun n : Nat => V.int n) = l
  have hne : l ≠ [] := by subst hl; rw [ne_eq, List.map_eq_nil_iff, List.drop_eq_nil_iff]; exact Nat.not_le.mpr h
  have e2 : pslice (l.take 4 ++ [V.int 0, .int 0, .int 0]) none (some 4) = (l.take 4 ++ [V.int 0, .int 0, .int 0]).take 4 := by
    unfold pslice
    rw [Option.elim, Option.elim, List.drop_zero, Nat.sub_zero, clip_ge' (i := 4) (k := 4) rfl]
    cases l with
    | nil => exact absurd rfl hne
    | cons a l => rw [List.length_append, List.take_succ_cons, List.length_cons]; exact Nat.add_le_add (Nat.succ_le_succ (Nat.zero_le _)) (Nat.le_refl 3)
  rw [e2, take4 (V.int 0) (V.int 0) (V.int 0) _ hne (V.int 0), ← hl, getD_int, getD_int, getD_int, getD_int]
  rfl
theorem range_small' : ∀ n, n < 1001 → Builtin.Range.small 0 ((n : Nat) : Int) 4 = true := by decide +kernel
theorem OC.ov_range4 {n : Nat} {Q : V → AH → Prop} (hn : K.Nodup) (hl : K.length = O.length) (hz : n ≤ 1000) (h : ∀ a, (a :: K).Nodup → Q (.ref a) (ov (a :: K) (.any (RangeO 0 n 4) :: O) σ)) :
    OC C f X ρ (.stat (.type "range")) [.int 0, .int n, .int 4] [] (ov K O σ) Q := OC.range3 (by decide) (range_small hz) fun a ha => h a (ov_new hn hl ha)
theorem El.strs {pos : Pos} {es : List Expr} : ∀ {ls : List (List Nat)} {Q : List V → AH → Prop}, strsOf es = some ls → Q (ls.map V.str) σ → El C f X ρ (spliced (backTo pos (starEach es f.env))) σ Q := by
  induction es with
  | nil => intro ls Q e h; cases e; exact El.nil h
  | cons e es ih =>
    intro ls Q e h
    obtain ⟨l, e0, e2⟩ := Option.bind_eq_some_iff.mp e
    obtain ⟨r, e1, rfl⟩ := Option.map_eq_some_iff.mp e2
    obtain ⟨k, p, rfl⟩ := sOf_eq e0
    exact El.cons (Ev.const_str rfl (ih e1 h)) rfl
/-- a list of texts, laid out -/
theorem Ev.ov_strs {es : List Expr} {pos : Pos} {ls : List (List Nat)} {Q : V → AH → Prop} (hn : K.Nodup) (hl : K.length = O.length) (hs : strsOf es = some ls) (hz : ls.length ≤ 16777216)
    (h : ∀ a, (a :: K).Nodup → Q (.ref a) (ov (a :: K) (.list (ls.map V.str) :: O) σ)) : Ev C f X ρ (eval (.List es pos) f.env) (ov K O σ) Q :=
  Ev.ov_list (El.strs hs ⟨by simpa using hz, K, O, σ, rfl, hn, hl, h⟩)
noncomputable def noH : AH := fun _ => none
theorem ov_noH : ∀ {K : List Addr} {O : List AO} {a : Addr} {o : AO}, ov K O noH a = some o → GetO K O a o
  | [], _, _, _, e => by cases e
  | _ :: _, [], _, _, e => by cases e
  | k :: K, p :: O, a, o, e => by
    by_cases q : a = k
    · subst q
      rw [show ov (a :: K) (p :: O) noH a = some p from AH.set_self ..] at e
      cases e; exact .head
    · rw [show ov (k :: K) (p :: O) noH a = ov K O noH a from AH.set_ne _ _ q] at e
      exact .tail (ov_noH e)
theorem ov_le {F : List Addr} {P : List AO} {τ : AH} (hn : F.Nodup) (h : ∀ k o, GetO K O k o → GetO F P k o) : ∀ a o, ov K O noH a = some o → ov F P τ a = some o := fun a o e => ov_get hn (h a o (ov_noH e))
theorem OS.ov_strs {value slice : Expr} {l : Addr} {WT : List (List Nat)} {w : Nat} {Q : V → AH → Prop} (hn : K.Nodup) (g : GetO K O l (.list (WT.map V.str))) (hw : w < WT.length) (hz : WT.length ≤ 16777216) (hs : ∀ o i, subscripted slice false o i = operate [o, i] (getItem o i))
    (h : Q (.str (WT.getD w [])) (ov K O σ)) : OS C f X ρ value slice (.ref l) (.int (w : Nat)) (ov K O σ) Q :=
  OS.ov_list hn g (by simpa using hz) (by rw [List.length_map]; omega) (by rw [List.length_map]; omega) (by
    have : idx ((w : Nat) : Int) (WT.map V.str).length = w := by unfold idx; rw [if_neg (by omega)]; omega
    rw [this, List.getElem?_map, List.getElem?_eq_getElem hw]
    simp [List.getD_eq_getElem?_getD, List.getElem?_eq_getElem hw]) h hs
theorem OS.ov_lit {value slice : Expr} {l : Addr} {vs : List V} {i : Int} {v : V} {Q : V → AH → Prop} (hn : K.Nodup) (g : GetO K O l (.list vs)) (hlen : vs.length ≤ 16777216) (h0 : -(vs.length : Int) ≤ i) (h1 : i < vs.length) (hv : vs[idx i vs.length]? = some v)
    (hs : ∀ o i, subscripted slice false o i = operate [o, i] (getItem o i)) (h : Q v (ov K O σ)) : OS C f X ρ value slice (.ref l) (.int i) (ov K O σ) Q := OS.ov_list hn g hlen h0 h1 hv h hs
theorem Ex.seq_same {st : Stmt} {rest : List Stmt} {ρ₁ : Loc} {Q : Fl → Loc → AH → Prop} (h : Ex C f X ρ (exec st f.env) σ fun fl ρ' σ' => fl = .next ∧ ρ' = ρ₁ ∧ σ' = σ) (k : Ex C f X ρ₁ (execs rest f.env) σ Q) : Ex C f X ρ (execs (st :: rest) f.env) σ Q :=
  Ex.cons (Ex.mono h fun fl ρ' σ' ⟨e1, e2, e3⟩ => by subst e1 e2 e3; exact k)
theorem OS.ov_last {value slice : Expr} {l : Addr} {vs : List V} {v : V} {Q : V → AH → Prop} (hn : K.Nodup) (g : GetO K O l (.list (vs ++ [v]))) (hz : vs.length ≤ 16777215)
    (hs : ∀ o i, subscripted slice false o i = operate [o, i] (getItem o i)) (h : Q v (ov K O σ)) : OS C f X ρ value slice (.ref l) (.int (-1)) (ov K O σ) Q :=
  OS.ov_list hn g (by simp; omega) (by simp; omega) (by simp; omega) (by
    have : idx (-1) (vs ++ [v]).length = vs.length := by unfold idx; simp; omega
    rw [this]; simp) h hs
theorem Ev.ifexp_chars {x : PySem.Str} {b : Bool} {cs ds : List Char} {k1 k2 : Nat} {p p1 p2 pos : Pos} {Q : V → AH → Prop} (ok : f.Ok d ns) (hi : GetAt ns ρ x (.bool b)) (h : Q (.str (cond b (ofC cs) (ofC ds))) σ) :
    Ev C f X ρ (eval (.IfExp (.Name x p) (.Constant (.str (PySem.Str.ofString (String.ofList cs))) k1 p1) (.Constant (.str (PySem.Str.ofString (String.ofList ds))) k2 p2) pos) f.env) σ Q := by
  refine Ev.ifexp (Et.value (Ev.loc ok hi (OT.bool ?_)))
  cases b
  · exact Ev.const_chars h
  · exact Ev.const_chars h
theorem O2.ov_ne_nil {l b : Addr} {vs : List V} {Q : V → AH → Prop} (ok : f.Ok d ns) (hn : K.Nodup) (hl : GetO K O l (.list vs)) (hb : GetO K O b (.list [])) (h : Q (.bool (!vs.isEmpty)) (ov K O σ)) :
    O2 C f X ρ (compareOp .NotEq) (.ref l) (.ref b) (ov K O σ) Q := O2.ne_nil ok (ov_get hn hl) (ov_get hn hb) h
end
end Mine

namespace Mine
end Mine

namespace Mine
noncomputable def cxOf (prog : Program) (w : World) {K : Frag} {s : Shared} {mg mb : PySem.Str → Option Value} (X : K.In s.heap) (g : s.heap.Ns mainGlobals mg) (b : s.heap.Ns builtinsNs mb) (bs : ∀ x : PySem.Str, x ≠ "__name__" → mb x = bootBuiltins x) (nl : s.heap.NoLimit) : Cx :=
  ⟨prog, w, K, s.heap, s.os, mg, mb, X, g, b, bs, nl⟩
theorem ok_start {env : Env} {d : Nat} {ns : List (PySem.Str × NameKind)} (h1 : env.scope.names = ns) (h2 : env.scope.kind = .function) (h3 : env.globals = mainGlobals) (h4 : env.builtins = builtinsNs) (h5 : env.frame = some env.locals) (nd : (ns.map (·.1)).Nodup) (dbg : (ns.map (·.1)).all (fun x => !(x == ("__debug__" : PySem.Str))) = true)
    (hd : callerA.depth + 1 + d < recursionLimit) (hu : callerA.units + 3 + 4 * d + 16 < cLine) : Fx.Ok d ns ⟨callerA.deeper env, env, []⟩ :=
  ⟨h1, h2, h3, h4, h5, by show (env.scope.names.map (·.1)).Nodup; rw [h1]; exact nd, by show (env.scope.names.map (·.1)).all _ = true; rw [h1]; exact dbg, hd, hu, rfl⟩
theorem statL_of {C : Cx} {h : Heap} {L : Addr} {cvs : List Value} {is : List Int} (HL : h.IsList L (List.toArray cvs)) (HI : IntsAre cvs is) (hb : C.base = h) : StatL C L is := ⟨cvs, by rw [hb]; exact HL, HI⟩
theorem len_of {n : Nat} (h : ¬ (63 : Int) < (n : Int)) : n ≤ 1000000 := by omega
/-- the law's body, from the state that the head leaves -/
theorem run_law {C : Cx} {env : Env} {A : Around} {body : List Stmt} {h₁ : Heap} {m : PySem.Str → Option Value} {s₁ : Shared} {tk : Nat} {La : Addr} {ns : List (PySem.Str × NameKind)} {Post : Flow → Shared → Prop} {E : Value → Shared → Prop}
    (hb : C.base = s₁.heap) (ho : C.os = s₁.os) (hg : s₁.gens = #[]) (fr : Fr s₁.heap s₁.heap.objs.size h₁ m) (hL : env.locals = s₁.heap.objs.size) (hn : env.scope.names = ((PySem.Str.ofString "script"), NameKind.local) :: ns) (hm : m "script" = some (.ref La))
    (H : ∀ f : Fx, f = ⟨A, env, []⟩ → Ex C f NoX (some (.stat (.ref La)) :: List.replicate ns.length none) (execs body f.env) noH fun fl _ _ => fl = .ret (.bool true))
    (hpost : ∀ s' : Shared, (∀ b o, s₁.heap.get? b = some o → s'.heap.get? b = some o) → s'.os = s₁.os → s'.gens = #[] → Post (.ret (.bool true)) s') :
    wpAny C.M A (execs body env) Post E { s₁ with heap := h₁, toks := tk } := by
  let f : Fx := ⟨A, env, []⟩
  have hNone : C.base.get? s₁.heap.objs.size = none := by rw [hb]; exact Heap.get?_none_of_le (Nat.le_refl _)
  have st : St C f (some (.stat (.ref La)) :: List.replicate ns.length none) noH noH { s₁ with heap := h₁, toks := tk } := by
    refine ⟨⟨rfl, rfl, fun _ _ e => (nomatch e), fun _ he => (nomatch he)⟩, ⟨fun b o e => fr.keep b o (by rw [← hb]; exact e), fun a o e => ?_, hg, ho.symm⟩⟩
    unfold tot at e
    split at e
    · rename_i q
      cases e
      subst q
      refine ⟨⟨m, ?_, ?_⟩, ?_⟩
      · show Heap.Ns h₁ env.locals m
        rw [hL]; exact fr.ns
      · intro i x v hi hv
        cases i with
        | zero =>
          have hx : x = "script" := by
            have : f.N[0]? = some ("script" : PySem.Str) := by show (env.scope.names.map (·.1))[0]? = _; rw [hn]; rfl
            rw [this] at hi; cases hi; rfl
          subst hx
          cases hv
          exact ⟨_, hm, .stat⟩
        | succ i =>
          rw [List.getElem?_cons_succ, List.getElem?_replicate] at hv
          split at hv <;> cases hv
      · show C.base.get? env.locals = none
        rw [hL]; exact hNone
    · cases e
  refine wpAny_mono (H f rfl noH _ st) (fun fl s' ⟨a, ρ', σ', x', r', t', e⟩ => ?_) fun _ _ e => e.elim
  subst e
  cases fl with
  | ret cv =>
    cases VR.boolI r'
    exact hpost s' (fun b o e => x'.sat.keep b o (by rw [hb]; exact e)) (x'.sat.os.trans ho) x'.sat.gens
  | _ => exact r'.elim
section
variable {C : Cx} {f : Fx} {X : XT} {ρ : Loc} {σ : AH} {es : List Expr} {Q : Bool → AH → Prop} {b : Bool}
/-- a test of two, taken as one value -/
theorem and_last (h : Q b σ) : if b then Et C f X ρ (allTrue .And [] f.env) σ Q else Q false σ := by
  cases b
  · exact h
  · exact Et.and_nil h
theorem or_last (h : Q b σ) : if b then Q true σ else Et C f X ρ (allTrue .Or [] f.env) σ Q := by
  cases b
  · exact Et.or_nil h
  · exact h
theorem and_merge (c : Bool) (hp : ∀ Q' : Bool → AH → Prop, Q' c σ → Et C f X ρ (allTrue .And es f.env) σ Q') (h : Q (b && c) σ) : if b then Et C f X ρ (allTrue .And es f.env) σ Q else Q false σ := by
  cases b
  · exact h
  · exact hp Q h
theorem or_merge (c : Bool) (hp : ∀ Q' : Bool → AH → Prop, Q' c σ → Et C f X ρ (allTrue .Or es f.env) σ Q') (h : Q (b || c) σ) : if b then Q true σ else Et C f X ρ (allTrue .Or es f.env) σ Q := by
  cases b
  · exact hp Q h
  · exact h
end
end Mine

namespace Mine
section
local macro_rules | `(tactic| o_head $_) => `(tactic| assumption)
theorem capt (h : PySem.Challenge.rw_kq0020_04.row.Holds) : PySem.Challenge.rw_kq0020_04.row.Holds := by
  k_head
end
end Mine

namespace Mine
noncomputable abbrev lexKP : List PySem.Str := [.ofString "instream", .ofString "infile", .ofString "posix", .ofString "eof", .ofString "commenters", .ofString "wordchars", .ofString "whitespace", .ofString "whitespace_split", .ofString "quotes", .ofString "escape", .ofString "escapedquotes", .ofString "state", .ofString "pushback", .ofString "lineno", .ofString "debug", .ofString "token", .ofString "filestack", .ofString "source", .ofString "_punctuation_chars", .ofString "_pushback_chars"]
noncomputable abbrev sioK : List PySem.Str := [.ofString "_StringIO__newline", .ofString "_StringIO__buf", .ofString "_StringIO__pos"]
noncomputable abbrev KK : Params → Frag := capt.heap_1
variable {C : Cx}
theorem g53 (P : Params) : fnGood (KK P) 53 2 = true := by kernel_rfl
theorem g371 (P : Params) : fnGood (KK P) 371 1 = true := by kernel_rfl
theorem g533 (P : Params) : fnGood (KK P) 533 2 = true := by kernel_rfl
theorem g541 (P : Params) : fnGood (KK P) 541 2 = true := by kernel_rfl
theorem g385 (P : Params) : fnGood (KK P) 385 2 = true := by kernel_rfl
theorem g690 (P : Params) : fnGood (KK P) 690 1 = true := by kernel_rfl
theorem g653 (P : Params) : fnGood (KK P) 653 1 = true := by kernel_rfl
theorem g683 (P : Params) : fnGood (KK P) 683 1 = true := by kernel_rfl
theorem g661 (P : Params) : fnGood (KK P) 661 2 = true := by kernel_rfl
theorem b53 (P : Params) (S : Setting) (a b : Value) : peek (KK P) S (bindArgs (fnAt (KK P) 53) ⟨[a, b], []⟩) = some ((((fnAt (KK P) 53).scope.names.map (·.1)).take 2).zip [a, b]) := by kernel_rfl
theorem b371 (P : Params) (S : Setting) (a : Value) : peek (KK P) S (bindArgs (fnAt (KK P) 371) ⟨[a], []⟩) = some ((((fnAt (KK P) 371).scope.names.map (·.1)).take 1).zip [a]) := by kernel_rfl
theorem b385 (P : Params) (S : Setting) (a b : Value) : peek (KK P) S (bindArgs (fnAt (KK P) 385) ⟨[a, b], []⟩) = some ((((fnAt (KK P) 385).scope.names.map (·.1)).take 2).zip [a, b]) := by kernel_rfl
theorem b690 (P : Params) (S : Setting) (a : Value) : peek (KK P) S (bindArgs (fnAt (KK P) 690) ⟨[a], []⟩) = some ((((fnAt (KK P) 690).scope.names.map (·.1)).take 1).zip [a]) := by kernel_rfl
theorem b653 (P : Params) (S : Setting) (a : Value) : peek (KK P) S (bindArgs (fnAt (KK P) 653) ⟨[a], []⟩) = some ((((fnAt (KK P) 653).scope.names.map (·.1)).take 1).zip [a]) := by kernel_rfl
theorem b683 (P : Params) (S : Setting) (a : Value) : peek (KK P) S (bindArgs (fnAt (KK P) 683) ⟨[a], []⟩) = some ((((fnAt (KK P) 683).scope.names.map (·.1)).take 1).zip [a]) := by kernel_rfl
theorem b661 (P : Params) (S : Setting) (a b : Value) : peek (KK P) S (bindArgs (fnAt (KK P) 661) ⟨[a, b], []⟩) = some ((((fnAt (KK P) 661).scope.names.map (·.1)).take 2).zip [a, b]) := by kernel_rfl
theorem b533 (P : Params) (S : Setting) (a b : Value) : peek (KK P) S (bindArgs (fnAt (KK P) 533) ⟨[a, b], []⟩) = some ((((fnAt (KK P) 533).scope.names.map (·.1)).take 2).zip [a, b]) := by kernel_rfl
theorem gl__index (hK : C.K = KK C.w.params) : Glob C (.ofString "_index") (.ref 53) := .ofR (by rw [hK]; kernel_rfl)
theorem kp__index (hK : C.K = KK C.w.params) : Keeps C (.stat (.ref 53)) := .ofK (by rw [hK]; kernel_rfl)
theorem gl_StringIO (hK : C.K = KK C.w.params) : Glob C (.ofString "StringIO") (.ref 587) := .ofR (by rw [hK]; kernel_rfl)
theorem kp_StringIO (hK : C.K = KK C.w.params) : Keeps C (.stat (.ref 587)) := .ofK (by rw [hK]; kernel_rfl)
theorem gl_shlex (hK : C.K = KK C.w.params) : Glob C (.ofString "shlex") (.ref 722) := .ofR (by rw [hK]; kernel_rfl)
theorem kp_shlex (hK : C.K = KK C.w.params) : Keeps C (.stat (.ref 722)) := .ofK (by rw [hK]; kernel_rfl)
theorem gl__law_digits (hK : C.K = KK C.w.params) : Glob C (.ofString "_law_digits") (.ref 733) := .ofR (by rw [hK]; kernel_rfl)
theorem kp__law_digits (hK : C.K = KK C.w.params) : Keeps C (.stat (.ref 733)) := .ofK (by rw [hK]; kernel_rfl)
theorem gl__law_pieces (hK : C.K = KK C.w.params) : Glob C (.ofString "_law_pieces") (.ref 740) := .ofR (by rw [hK]; kernel_rfl)
theorem kp__law_pieces (hK : C.K = KK C.w.params) : Keeps C (.stat (.ref 740)) := .ofK (by rw [hK]; kernel_rfl)
theorem gl__law_holds (hK : C.K = KK C.w.params) : Glob C (.ofString "_law_holds") (.ref 747) := .ofR (by rw [hK]; kernel_rfl)
theorem kp__law_holds (hK : C.K = KK C.w.params) : Keeps C (.stat (.ref 747)) := .ofK (by rw [hK]; kernel_rfl)
theorem gl_type (hK : C.K = KK C.w.params) : Glob C (.ofString "type") (.type "type") := .boot (by rw [hK]; kernel_rfl) (by with_unfolding_all rfl) (by decide)
theorem gl_int (hK : C.K = KK C.w.params) : Glob C (.ofString "int") (.type "int") := .boot (by rw [hK]; kernel_rfl) (by with_unfolding_all rfl) (by decide)
theorem gl_str (hK : C.K = KK C.w.params) : Glob C (.ofString "str") (.type "str") := .boot (by rw [hK]; kernel_rfl) (by with_unfolding_all rfl) (by decide)
theorem gl_len (hK : C.K = KK C.w.params) : Glob C (.ofString "len") (.builtin "len") := .boot (by rw [hK]; kernel_rfl) (by with_unfolding_all rfl) (by decide)
theorem gl_isinstance (hK : C.K = KK C.w.params) : Glob C (.ofString "isinstance") (.builtin "isinstance") := .boot (by rw [hK]; kernel_rfl) (by with_unfolding_all rfl) (by decide)
theorem gl_range (hK : C.K = KK C.w.params) : Glob C (.ofString "range") (.type "range") := .boot (by rw [hK]; kernel_rfl) (by with_unfolding_all rfl) (by decide)
theorem gl_abs (hK : C.K = KK C.w.params) : Glob C (.ofString "abs") (.builtin "abs") := .boot (by rw [hK]; kernel_rfl) (by with_unfolding_all rfl) (by decide)
theorem gl_dict (hK : C.K = KK C.w.params) : Glob C (.ofString "dict") (.type "dict") := .boot (by rw [hK]; kernel_rfl) (by with_unfolding_all rfl) (by decide)
theorem own_lex (hK : C.K = KK C.w.params) : OwnF C 722 lexKP := .of (by rw [hK]; kernel_rfl)
theorem own_sio (hK : C.K = KK C.w.params) : OwnF C 587 sioK := .of (by rw [hK]; kernel_rfl)
theorem m_check (hK : C.K = KK C.w.params) : MethF C 587 sioK (.ofString "_StringIO__check") 371 := .of (by rw [hK]; kernel_rfl)
theorem kp_m_check (hK : C.K = KK C.w.params) : Keeps C (.stat (.ref 371)) := .ofK (by rw [hK]; kernel_rfl)
theorem m_read (hK : C.K = KK C.w.params) : MethF C 587 sioK (.ofString "read") 533 := .of (by rw [hK]; kernel_rfl)
theorem kp_m_read (hK : C.K = KK C.w.params) : Keeps C (.stat (.ref 533)) := .ofK (by rw [hK]; kernel_rfl)
theorem m_readline (hK : C.K = KK C.w.params) : MethF C 587 sioK (.ofString "readline") 541 := .of (by rw [hK]; kernel_rfl)
theorem kp_m_readline (hK : C.K = KK C.w.params) : Keeps C (.stat (.ref 541)) := .ofK (by rw [hK]; kernel_rfl)
theorem m_line (hK : C.K = KK C.w.params) : MethF C 587 sioK (.ofString "_StringIO__line") 385 := .of (by rw [hK]; kernel_rfl)
theorem kp_m_line (hK : C.K = KK C.w.params) : Keeps C (.stat (.ref 385)) := .ofK (by rw [hK]; kernel_rfl)
theorem m_read_token (hK : C.K = KK C.w.params) : MethF C 722 lexKP (.ofString "read_token") 690 := .of (by rw [hK]; kernel_rfl)
theorem kp_m_read_token (hK : C.K = KK C.w.params) : Keeps C (.stat (.ref 690)) := .ofK (by rw [hK]; kernel_rfl)
theorem m_get_token (hK : C.K = KK C.w.params) : MethF C 722 lexKP (.ofString "get_token") 683 := .of (by rw [hK]; kernel_rfl)
theorem kp_m_get_token (hK : C.K = KK C.w.params) : Keeps C (.stat (.ref 683)) := .ofK (by rw [hK]; kernel_rfl)
theorem m_push_token (hK : C.K = KK C.w.params) : MethF C 722 lexKP (.ofString "push_token") 661 := .of (by rw [hK]; kernel_rfl)
theorem kp_m_push_token (hK : C.K = KK C.w.params) : Keeps C (.stat (.ref 661)) := .ofK (by rw [hK]; kernel_rfl)
theorem p_pc (hK : C.K = KK C.w.params) : AProp C 722 (.ofString "punctuation_chars") 653 := .of (pa := 654) (by rw [hK]; kernel_rfl)
theorem b541 (P : Params) (S : Setting) (a : Value) : peek (KK P) S (bindArgs (fnAt (KK P) 541) ⟨[a], []⟩) = some ((((fnAt (KK P) 541).scope.names.map (·.1)).take 2).zip [a, .int (-1) 875]) := by kernel_rfl
end Mine

namespace Mine
variable {C : Cx}
theorem g80 (P : Params) : fnGood (KK P) 80 3 = true := by kernel_rfl
theorem g357 (P : Params) : fnGood (KK P) 357 3 = true := by kernel_rfl
theorem g364 (P : Params) : fnGood (KK P) 364 2 = true := by kernel_rfl
theorem b364 (P : Params) (S : Setting) (a b : Value) : peek (KK P) S (bindArgs (fnAt (KK P) 364) ⟨[a, b], []⟩) = some ((((fnAt (KK P) 364).scope.names.map (·.1)).take 2).zip [a, b]) := by kernel_rfl
theorem bs80 (P : Params) (S : Setting) (x y : Addr) (ca : Value) : peek2 (KK P) S x y (bindArgs (fnAt (KK P) 80) ⟨[.ref 587, ca], []⟩) = some (⟨.type "tuple", none, .seq #[ca] 0, #[]⟩, emptyDict, (((fnAt (KK P) 80).scope.names.map (·.1)).take 3).zip [.ref 587, .ref x, .ref y]) := by kernel_rfl
theorem mk587 (P : Params) : makesNB (KK P) 587 84 80 357 = true := by kernel_rfl
theorem md587 (P : Params) (S : Setting) : peek (KK P) S (Bind.madeBy (.ref 587)) = some none := by kernel_rfl
theorem nw587 (P : Params) : newB (KK P) 587 = true := by kernel_rfl
theorem ck587 (P : Params) (S : Setting) : peek (KK P) S (checkBuiltinCall "object.__new__" ⟨[.ref 587], []⟩) = some () := by kernel_rfl
theorem mh587 (P : Params) (S : Setting) : peek (KK P) S (Bind.madeHere "object.__new__" (.ref 587)) = some () := by kernel_rfl
theorem gl_BytesIO (hK : C.K = KK C.w.params) : Glob C (.ofString "BytesIO") (.ref 340) := .ofR (by rw [hK]; kernel_rfl)
theorem gl_object (hK : C.K = KK C.w.params) : Glob C (.ofString "object") (.type "object") := .boot (by rw [hK]; kernel_rfl) (by with_unfolding_all rfl) (by decide)
theorem in_587_340 (hK : C.K = KK C.w.params) (S : Setting) : peek C.K S (compareOp .IsNot (.ref 587) (.ref 340)) = some (.bool true) := by rw [hK]; kernel_rfl
theorem in_587_587 (hK : C.K = KK C.w.params) (S : Setting) : peek C.K S (compareOp .IsNot (.ref 587) (.ref 587)) = some (.bool false) := by rw [hK]; kernel_rfl
theorem ob_new (hK : C.K = KK C.w.params) : findCls C.K (.type "object") (.type "type") "__new__" = some (.val (.builtin "object.__new__")) := by rw [hK]; kernel_rfl
theorem ty_object : typeOf (.type "object") = pure (.type "type") := by kernel_rfl
theorem om_obj_new {f : Fx} {X : XT} {ρ : Loc} {σ : AH} (hK : C.K = KK C.w.params) {Q : V → List V → AH → Prop} (h : Q (.stat (.builtin "object.__new__")) [] σ) : OM C f X ρ (.ofString "__new__") (.stat (.type "object")) σ Q := OM.type_val ty_object (by decide +kernel) (ob_new hK) rfl h
theorem b357 (P : Params) (S : Setting) (a b : Value) : peek (KK P) S (bindArgs (fnAt (KK P) 357) ⟨[a, b], []⟩) = some ((((fnAt (KK P) 357).scope.names.map (·.1)).take 3).zip [a, b, .str (tx [10]) 671]) := by kernel_rfl
theorem m_translated (hK : C.K = KK C.w.params) : MethF C 587 sioK (.ofString "_StringIO__translated") 364 := .of (by rw [hK]; kernel_rfl)
theorem kp_m_translated (hK : C.K = KK C.w.params) : Keeps C (.stat (.ref 364)) := .ofK (by rw [hK]; kernel_rfl)
end Mine

namespace Mine
variable {C : Cx}
theorem g646 (P : Params) : fnGood (KK P) 646 5 = true := by kernel_rfl
theorem b646 (P : Params) (S : Setting) (a b : Value) : peek (KK P) S (bindArgs (fnAt (KK P) 646) ⟨[a, b], [("posix", .bool false), ("punctuation_chars", .bool true)]⟩) = some ((((fnAt (KK P) 646).scope.names.map (·.1)).take 5).zip [a, b, .none, .bool false, .bool true]) := by kernel_rfl
theorem mk722 (hK : C.K = KK C.w.params) : makesIn C.K 722 = true := by rw [hK]; kernel_rfl
theorem mi722 (hK : C.K = KK C.w.params) : isR (findIn C.K (.ref 722) "__init__") 646 = true := by rw [hK]; kernel_rfl
theorem mf722 (hK : C.K = KK C.w.params) : (typeIn C.K (.ref 646) == some (.type "function")) = true := by rw [hK]; kernel_rfl
theorem gl_deque (hK : C.K = KK C.w.params) : Glob C (.ofString "deque") (.type "collections.deque") := .top (by rw [hK]; kernel_rfl)
theorem big (hK : C.K = KK C.w.params) : Big C := ⟨722, (C.K.lookup 722).getD default, by decide, by rw [hK]; kernel_rfl⟩
end Mine

namespace Mine
variable {C : Cx}
theorem g733 (P : Params) : fnGood (KK P) 733 2 = true := by kernel_rfl
theorem g740 (P : Params) : fnGood (KK P) 740 2 = true := by kernel_rfl
theorem g747 (P : Params) : fnGood (KK P) 747 2 = true := by kernel_rfl
theorem b733 (P : Params) (S : Setting) (a b : Value) : peek (KK P) S (bindArgs (fnAt (KK P) 733) ⟨[a, b], []⟩) = some ((((fnAt (KK P) 733).scope.names.map (·.1)).take 2).zip [a, b]) := by kernel_rfl
theorem b740 (P : Params) (S : Setting) (a b : Value) : peek (KK P) S (bindArgs (fnAt (KK P) 740) ⟨[a, b], []⟩) = some ((((fnAt (KK P) 740).scope.names.map (·.1)).take 2).zip [a, b]) := by kernel_rfl
theorem b747 (P : Params) (S : Setting) (a b : Value) : peek (KK P) S (bindArgs (fnAt (KK P) 747) ⟨[a, b], []⟩) = some ((((fnAt (KK P) 747).scope.names.map (·.1)).take 2).zip [a, b]) := by kernel_rfl
end Mine

namespace Mine
local macro_rules | `(tactic| walk_at "gGetAt") => `(tactic| first | with_reducible exact GetAt.head | ((with_reducible apply GetAt.tail); walk_at "gGetAt"))
local macro_rules | `(tactic| walk_at "gGetO") => `(tactic| first | with_reducible exact GetO.head | ((with_reducible apply GetO.tail); walk_at "gGetO"))
local macro_rules | `(tactic| walk_at "gPutO") => `(tactic| first | with_reducible exact PutO.head | ((with_reducible apply PutO.tail); walk_at "gPutO"))
local macro_rules | `(tactic| walk_at "gGetF") => `(tactic| first | with_reducible exact GetF.head | ((with_reducible apply GetF.tail); walk_at "gGetF"))
local macro_rules | `(tactic| walk_at "gAppF") => `(tactic| first | with_reducible exact AppF.head | ((with_reducible apply AppF.tail); walk_at "gAppF"))
local macro_rules | `(tactic| walk_at "gPutF") => `(tactic| first | with_reducible exact PutF.head | ((with_reducible apply PutF.tail); walk_at "gPutF"))
local macro_rules | `(tactic| walk_at "gPutAt") => `(tactic| first | with_reducible exact PutAt.head | ((with_reducible apply PutAt.tail); walk_at "gPutAt"))
local macro_rules | `(tactic| walk_at "gGlobAt") => `(tactic| first | with_reducible exact GlobAt.head | ((with_reducible apply GlobAt.tail); walk_at "gGlobAt"))
local macro_rules | `(tactic| walk_at "asm") => `(tactic| with_reducible assumption)
local macro_rules | `(tactic| walk_at "glob") => `(tactic| first | with_reducible assumption | walk_at "globs" )
local macro_rules | `(tactic| walk_at "keep") => `(tactic| first | with_reducible exact Mine.Keeps.builtin | with_reducible exact Mine.Keeps.type | with_reducible assumption | walk_at "keeps")
local macro_rules | `(tactic| walk_at "ite") => `(tactic| first | with_reducible refine ite_t ?_ | with_reducible refine ite_f ?_ | with_reducible refine ite_n ?_ | with_reducible refine ite_e (c := true) (by with_reducible assumption) (ite_t ?_) | with_reducible refine ite_e (c := false) (by with_reducible assumption) (ite_f ?_) | (with_reducible refine ite_e (c := true) (by decide) (ite_t ?_)) | (with_reducible refine ite_e (c := false) (by decide) (ite_f ?_)) | (with_reducible refine ite_e (c := true) (by walk_at "cond") (ite_t ?_)) | (with_reducible refine ite_e (c := false) (by walk_at "cond") (ite_f ?_)) | ((with_reducible refine ite_b ?_ ?_) <;> intro _))
local macro_rules | `(tactic| walk_at "ex") => `(tactic| first | with_reducible refine Ex.cons ?_ | with_reducible refine Ex.nil ?_ | with_reducible refine Ex.ite ?_ | ((with_reducible refine Ex.isAssign ?_); with_reducible refine Ex.assign ?_ (by with_unfolding_all rfl) (by with_unfolding_all rfl) (by with_unfolding_all rfl)) | ((with_reducible apply Ex.aug_loc); (focus (walk_at "asm")); (focus (walk_at "gGetAt"))) | with_reducible refine Ex.aug_attr ?_ | with_reducible refine Ex.ret ?_ | with_reducible refine Ex.brk ?_ | with_reducible refine Ex.cont ?_ | with_reducible refine Ex.pass ?_ | with_reducible refine Ex.ret_none ?_ | ((with_reducible apply Ex.expr'); (focus (walk_at "asm")); (focus (with_unfolding_all rfl))))
local macro_rules | `(tactic| walk_at "ev") => `(tactic| first | ((with_reducible apply Ev.loc); (focus (walk_at "asm")); (focus (walk_at "gGetAt"))) | ((with_reducible refine Ev.isAttr ?_); with_reducible refine Ev.attr ?_) | with_reducible refine Ev.const_int ?_ | with_reducible refine Ev.const_none ?_ | with_reducible refine Ev.const_bool ?_ | with_reducible refine Ev.const_chars ?_ | ((with_reducible apply Ev.glob); (focus (walk_at "asm")); (focus (walk_at "gGlobAt")); (focus (walk_at "glob"))) | ((with_reducible refine Ev.isCmp ?_); with_reducible refine Ev.compare1 ?_) | with_reducible refine Ev.binop ?_ | with_reducible refine Ev.unop ?_ | ((with_reducible refine Ev.isMCall ?_); with_reducible refine Ev.method ?_) | ((with_reducible refine Ev.isCall ?_); with_reducible refine Ev.call ?_) | with_reducible refine Ev.tuple ?_ | with_reducible refine Ev.ov_list ?_ | with_reducible refine Ev.ov_slice_list ?_ | with_reducible refine Ev.subscript ?_ | with_reducible refine Ev.ifexp ?_ | with_reducible refine Ev.boolop ?_ | with_reducible refine Ev.bo_one ?_ | with_reducible refine Ev.bo_cons ?_)
local macro_rules | `(tactic| walk_at "et") => `(tactic| first | ((with_reducible refine Et.isCmp ?_); first | with_reducible refine Et.compare1 ?_ | with_reducible refine Et.compare2 ?_) | with_reducible refine Et.not ?_ | with_reducible refine Et.boolop ?_ | with_reducible refine Et.and_cons ?_ | with_reducible refine Et.or_cons ?_ | with_reducible refine Et.and_nil ?_ | with_reducible refine Et.or_nil ?_ | with_reducible refine Et.value ?_)
local macro_rules | `(tactic| walk_at "o2") => `(tactic| first | ((with_reducible apply O2.add_str); (focus (walk_at "sz"))) | ((with_reducible apply O2.iadd_str); (focus (walk_at "sz"))) | ((with_reducible apply O2.mod_int); (focus (walk_at "nz"))) | ((with_reducible apply O2.div_int); (focus (walk_at "nz")); (focus (walk_at "dv"))) | with_reducible refine O2.in_str ?_ | with_reducible refine O2.eq_str ?_ | with_reducible refine O2.ge_int ?_ | with_reducible refine O2.is_none_str ?_ | with_reducible refine O2.is_none_none ?_ | with_reducible refine O2.is_none_int ?_ | with_reducible refine O2.is_none_ref ?_ | with_reducible refine O2.is_none_tup ?_ | with_reducible refine O2.isnot_none_str ?_ | with_reducible refine O2.isnot_none_none ?_ | with_reducible refine O2.isnot_none_ref ?_ | ((with_reducible apply O2.is_none); (focus (with_unfolding_all rfl))) | ((with_reducible apply O2.isnot_none); (focus (with_unfolding_all rfl))) | with_reducible refine O2.gt_int ?_ | with_reducible refine O2.lt_int ?_ | with_reducible refine O2.add_int ?_ | with_reducible refine O2.iadd_int ?_ | with_reducible refine O2.notin_str ?_ | with_reducible refine O2.ne_str ?_ | with_reducible refine O2.eq_int ?_ | with_reducible refine O2.isnot_type ?_ | with_reducible refine O2.sub_int ?_ | with_reducible refine O2.le_int ?_ | with_reducible refine O2.ne_int ?_ | with_reducible refine O2.eq_none_str ?_ | with_reducible refine O2.eq_str_none ?_ | with_reducible refine O2.eq_none_none ?_ | with_reducible refine O2.ne_none_str ?_ | with_reducible refine O2.ne_str_none ?_ | with_reducible refine O2.ne_none_none ?_ | ((with_reducible apply O2.in_tup); (focus (with_unfolding_all rfl))))
local macro_rules | `(tactic| walk_at "o1") => `(tactic| first | ((with_reducible apply O1.ov_attr); (focus (walk_at "asm")); (focus (walk_at "gGetO")); (focus (walk_at "gGetO")); (focus (walk_at "own")); (focus (walk_at "gGetF")); (focus (with_unfolding_all rfl))) | (((with_reducible apply O1.ov_prop); (focus (walk_at "asm")); (focus (walk_at "asm")); (focus (walk_at "gGetO")); (focus (walk_at "gGetO")); (focus (walk_at "prop"))); walk_at "pfns") | with_reducible refine O1.neg_int ?_ | with_reducible refine O1.not ?_)
local macro_rules | `(tactic| walk_at "ot") => `(tactic| first | with_reducible refine OT.bool ?_ | with_reducible refine OT.none ?_ | with_reducible refine OT.int ?_ | ((with_reducible apply OT.ov_deque); (focus (walk_at "asm")); (focus (walk_at "gGetO")); (focus (walk_at "sz"))) | ((with_reducible apply OT.ov_list); (focus (walk_at "asm")); (focus (walk_at "gGetO")); (focus (walk_at "sz"))) | ((with_reducible apply OT.str); (focus (walk_at "sz"))))
local macro_rules | `(tactic| walk_at "sz") => `(tactic| first | with_reducible assumption | decide | (simp; done) | (simp; omega) | omega | walk_at "sz2")
local macro_rules | `(tactic| walk_at "om") => `(tactic| first | ((with_reducible apply OM.ov_inst); (focus (walk_at "asm")); (focus (walk_at "gGetO")); (focus (walk_at "gGetO")); (focus (walk_at "meth"))) | ((with_reducible apply OM.ov_list); (focus (walk_at "asm")); (focus (walk_at "gGetO")); (focus (walk_at "slot")); (focus (walk_at "slot"))) | ((with_reducible apply OM.ov_deque); (focus (walk_at "asm")); (focus (walk_at "gGetO")); (focus (walk_at "slot")); (focus (walk_at "slot"))) | ((with_reducible apply OM.str); (focus (walk_at "slot")); (focus (walk_at "slot"))))
local macro_rules | `(tactic| walk_at "oc") => `(tactic| first | with_reducible refine OC.cat1 ?_ | walk_at "fns" | with_reducible refine OC.type_of (T := "int") (.inl ⟨rfl, _, rfl⟩) ?_ | with_reducible refine OC.type_of (T := "str") (.inr ⟨rfl, _, rfl⟩) ?_ | with_reducible refine OC.int_int ?_ | with_reducible refine OC.isi_str ?_ | ((with_reducible apply OC.len_str); (focus (walk_at "sz"))) | ((with_reducible apply OC.ov_len); (focus (walk_at "asm")); (focus (walk_at "gGetO")); (focus (walk_at "sz"))) | ((with_reducible apply OC.ov_append); (focus (walk_at "asm")); (focus (walk_at "gGetO")); (focus (walk_at "sz")); (focus (walk_at "gPutO"))) | ((with_reducible apply OC.ov_appendleft); (focus (walk_at "asm")); (focus (walk_at "gGetO")); (focus (walk_at "sz")); (focus (walk_at "gPutO"))) | ((with_reducible apply OC.ov_dappend0); (focus (walk_at "asm")); (focus (walk_at "gGetO")); (focus (walk_at "gPutO"))) | ((with_reducible apply OC.ov_dpop1); (focus (walk_at "asm")); (focus (walk_at "gGetO")); (focus (walk_at "gPutO"))) | ((with_reducible apply OC.ov_popleft); (focus (walk_at "asm")); (focus (walk_at "gGetO")); (focus (walk_at "sz")); (focus (walk_at "gPutO"))) | ((with_reducible apply OC.find3); (focus (walk_at "sz"))) | with_reducible refine OC.abs ?_)
local macro_rules | `(tactic| walk_at "pall") => `(tactic| first | with_reducible exact PutAll.nil | ((with_reducible apply PutAll.cons); (focus (walk_at "pall")); (walk_at "gPutO")))
local macro_rules | `(tactic| walk_at "w") => `(tactic| first | ((with_reducible show Ev _ _ _ _ _ _ _); walk_at "ev") | ((with_reducible show Et _ _ _ _ _ _ _); walk_at "et") | ((with_reducible show Ex _ _ _ _ _ _ _); walk_at "ex") | ((with_reducible show O2 _ _ _ _ _ _ _ _ _); walk_at "o2") | ((with_reducible show O1 _ _ _ _ _ _ _ _); walk_at "o1") | ((with_reducible show OT _ _ _ _ _ _ _); walk_at "ot") | ((with_reducible show OM _ _ _ _ _ _ _ _); walk_at "om") | ((with_reducible show OC _ _ _ _ _ _ _ _ _); walk_at "oc") | ((with_reducible show (if _ then _ else _)); walk_at "ite") | with_reducible refine El.cons ?_ | with_reducible refine El.nil ?_ | with_reducible refine Ek.nil ?_ | ((with_reducible apply Ek.cons); (focus (with_unfolding_all rfl))) | ((with_reducible show Mine.Keeps _ _ ∧ _); refine ⟨by walk_at "keep", ?_⟩) | ((with_reducible show AsV _ _ _ _ _ _ _ _); first | ((with_reducible apply AsV.loc); (focus (walk_at "asm")); (focus (walk_at "gPutAt"))) | with_reducible refine AsV.attr ?_) | ((with_reducible apply AS.ov); (focus (walk_at "asm")); (focus (walk_at "gGetO")); (focus (walk_at "gGetO")); (focus (walk_at "own")); (focus (walk_at "gPutF")); (focus (walk_at "gPutO"))) | ((with_reducible apply AS.ov_app); (focus (walk_at "asm")); (focus (walk_at "gGetO")); (focus (walk_at "gGetO")); (focus (walk_at "own")); (focus (walk_at "gAppF")); (focus (walk_at "gPutO"))) | (with_reducible refine Ep.i ?_) | ((with_reducible apply sl_str); (focus (walk_at "sz"))) | ((with_reducible apply sl_list); (focus (walk_at "asm")); (focus (walk_at "gGetO")); (focus (walk_at "sz")); (focus (walk_at "len")); intro _ _) | ((with_reducible apply dl_list); (focus (walk_at "sz")); (focus (walk_at "asm")); (focus (walk_at "len")); intro _ _) | ((with_reducible apply dl_tup); (focus (walk_at "sz"))) | (with_reducible refine Ep.none ?_) | (with_reducible refine Ep.some ?_) | dsimp only)
local macro_rules | `(tactic| walk_at "ww") => `(tactic| repeat' walk_at "w")
local macro_rules | `(tactic| walk_at "slot") => `(tactic| first | with_reducible exact PySem.F.slot_str_find | with_reducible exact PySem.F.type_str_find | with_reducible exact PySem.F.slot_list_append | with_reducible exact PySem.F.type_list_append | with_reducible exact PySem.F.slot_list_pop | with_reducible exact PySem.F.type_list_pop | with_reducible exact PySem.F.slot_list_insert | with_reducible exact PySem.F.type_list_insert | with_reducible exact slot_deque_append | with_reducible exact type_deque_append | with_reducible exact slot_deque_pop | with_reducible exact type_deque_pop | with_reducible exact slot_deque_popleft | with_reducible exact type_deque_popleft | with_reducible exact slot_deque_appendleft | with_reducible exact type_deque_appendleft)
local macro_rules | `(tactic| walk_at "fns") => `(tactic| fail)
local macro_rules | `(tactic| walk_at "globs") => `(tactic| fail)
local macro_rules | `(tactic| walk_at "keeps") => `(tactic| fail)
local macro_rules | `(tactic| walk_at "own") => `(tactic| fail)
local macro_rules | `(tactic| walk_at "meth") => `(tactic| fail)
local macro_rules | `(tactic| walk_at "prop") => `(tactic| fail)
local macro_rules | `(tactic| walk_at "pfns") => `(tactic| fail)
local macro_rules | `(tactic| walk_at "cond") => `(tactic| fail)
local macro_rules | `(tactic| walk_at "in") => `(tactic| (conv in (bodyOf _) => whnf); (conv in (namesOf _) => whnf); simp only [List.map_cons, List.map_nil, List.length_cons, List.length_nil, List.replicate, Nat.reduceAdd, Nat.reduceSub, List.cons_append, List.nil_append])
local macro_rules | `(tactic| walk_at "sub") => `(tactic| first | exact List.nil_sublist _ | ((with_reducible apply List.Sublist.cons₂); walk_at "sub") | ((with_reducible apply List.Sublist.cons); walk_at "sub"))
local macro_rules | `(tactic| walk_at "nd") => `(tactic| ((apply List.Nodup.sublist); rotate_left; (focus (with_reducible assumption)); walk_at "sub"))
local macro_rules | `(tactic| walk_at "sz2") => `(tactic| fail)
local macro_rules | `(tactic| walk_at "nz") => `(tactic| first | decide | with_reducible assumption)
local macro_rules | `(tactic| walk_at "dv") => `(tactic| first | with_reducible assumption | rfl)
local macro_rules | `(tactic| walk_at "len") => `(tactic| first | assumption | with_unfolding_all rfl | (simp only [List.length_cons]; omega))
local macro_rules | `(tactic| walk_at "globs") => `(tactic| first | with_reducible exact gl__index (by walk_at "asm") | with_reducible exact gl__wall (by walk_at "asm") | with_reducible exact gl_StringIO (by walk_at "asm") | with_reducible exact gl_shlex (by walk_at "asm") | with_reducible exact gl__law_digits (by walk_at "asm") | with_reducible exact gl__law_pieces (by walk_at "asm") | with_reducible exact gl__law_holds (by walk_at "asm") | with_reducible exact gl_type (by walk_at "asm") | with_reducible exact gl_int (by walk_at "asm") | with_reducible exact gl_bool (by walk_at "asm") | with_reducible exact gl_str (by walk_at "asm") | with_reducible exact gl_len (by walk_at "asm") | with_reducible exact gl_isinstance (by walk_at "asm") | with_reducible exact gl_range (by walk_at "asm") | with_reducible exact gl_abs (by walk_at "asm") | with_reducible exact gl_dict (by walk_at "asm"))
local macro_rules | `(tactic| walk_at "keeps") => `(tactic| first | with_reducible exact kp__index (by walk_at "asm") | with_reducible exact kp__wall (by walk_at "asm") | with_reducible exact kp_StringIO (by walk_at "asm") | with_reducible exact kp_shlex (by walk_at "asm") | with_reducible exact kp__law_digits (by walk_at "asm") | with_reducible exact kp__law_pieces (by walk_at "asm") | with_reducible exact kp__law_holds (by walk_at "asm") | with_reducible exact kp_m_check (by walk_at "asm") | with_reducible exact kp_m_read (by walk_at "asm") | with_reducible exact kp_m_readline (by walk_at "asm") | with_reducible exact kp_m_line (by walk_at "asm") | with_reducible exact kp_m_read_token (by walk_at "asm") | with_reducible exact kp_m_get_token (by walk_at "asm") | with_reducible exact kp_m_push_token (by walk_at "asm"))
local macro_rules | `(tactic| walk_at "own") => `(tactic| first | with_reducible exact own_lex (by walk_at "asm") | with_reducible exact own_sio (by walk_at "asm"))
local macro_rules | `(tactic| walk_at "meth") => `(tactic| first | with_reducible exact m_check (by walk_at "asm") | with_reducible exact m_read (by walk_at "asm") | with_reducible exact m_readline (by walk_at "asm") | with_reducible exact m_line (by walk_at "asm") | with_reducible exact m_read_token (by walk_at "asm") | with_reducible exact m_get_token (by walk_at "asm") | with_reducible exact m_push_token (by walk_at "asm"))
local macro_rules | `(tactic| walk_at "prop") => `(tactic| first | with_reducible exact p_pc (by walk_at "asm"))
section
variable {C : Cx} {f : Fx} {ns : List (PySem.Str × NameKind)} {d : Nat} {X : XT} {ρ : Loc} {σ : AH}
local macro_rules | `(tactic| walk_at "cond") => `(tactic| (simp only [decide_eq_true_eq, decide_eq_false_iff_not]; omega))
theorem f_index (hK : C.K = KK C.w.params) (ok : f.Ok (d + 1) ns) {i : Int} {l : List Nat} {Q : V → AH → Prop} (h1 : i ≤ 1099511627776) (h2 : -1099511627776 ≤ i) (h : Q (.int i) σ) :
    OC C f X ρ (.stat (.ref 53)) [.int i, .str l] [] σ Q := by
  refine OC.def ok (by rw [hK]; exact g53 _) (Binds.p2 (by rw [hK]; exact b53 _)) fun f' ok' hh => ?_
  clear ok
  rw [hK] at ok' ⊢
  conv at ok' in (namesOf _) => whnf
  walk_at "in"
  walk_at "ww"
  exact h
noncomputable abbrev sio (nl buf : List Nat) (pos : Nat) : AO := fields sioK [.str nl, .str buf, .int pos]
theorem f_check (hK : C.K = KK C.w.params) (ok : f.Ok (d + 1) ns) {x sd : Addr} {nl buf : List Nat} {pos : Nat} (hn : [x, sd].Nodup) {Q : V → AH → Prop} (h : Q .none (ov [x, sd] [.inst 587 sd, sio nl buf pos] σ)) :
    OC C f X ρ (.stat (.ref 371)) [.ref x] [] (ov [x, sd] [.inst 587 sd, sio nl buf pos] σ) Q := by
  refine OC.def ok (by rw [hK]; exact g371 _) (Binds.p1 (by rw [hK]; exact b371 _)) fun f' ok' hh => ?_
  clear ok
  rw [hK] at ok' ⊢
  conv at ok' in (namesOf _) => whnf
  walk_at "in"
  walk_at "ww"
  exact h
theorem lf_check (hK : C.K = KK C.w.params) (ok : f.Ok (d + 1) ns) {K : List Addr} {O : List AO} (hn : K.Nodup) {x sd : Addr} {nl buf : List Nat} {pos : Nat} (g : PutAll K O [x, sd] [.inst 587 sd, sio nl buf pos] O) (hs : [sd, x].Nodup) {Q : V → AH → Prop} (h : Q .none (ov K O σ)) :
    OC C f X ρ (.stat (.ref 371)) [.ref x] [] (ov K O σ) Q := OC.lift hn (fun _ _ h => f_check hK ok (by simp at hs ⊢; exact Ne.symm hs) h) g g h
local macro_rules | `(tactic| walk_at "fns") => `(tactic| first
  | ((with_reducible apply f_index); (focus (walk_at "asm")); (focus (walk_at "asm")); (focus (decide)); (focus (decide)))
  | ((with_reducible apply lf_check); (focus (walk_at "asm")); (focus (walk_at "asm")); (focus (walk_at "asm")); (focus (walk_at "pall")); (focus (walk_at "nd"))))
local macro_rules | `(tactic| walk_at "sz2") => `(tactic| first | (refine Nat.le_trans (Nat.add_le_add (pslice_length_le _ _ _) (Nat.le_refl _)) ?_; simp [ofC]; omega) | (rw [List.length_append]; refine Nat.le_trans (Nat.add_le_add (pslice_length_le _ _ _) (Nat.le_refl _)) ?_; simp [ofC]; omega))
theorem clip_pos {n pos : Nat} (h : pos ≤ n) : clipAt n (pos : Int) = pos := by unfold clipAt; split <;> omega
theorem read_cut {buf : List Nat} {a b : Nat} (ha : a ≤ buf.length) (hb : b ≤ buf.length) : pslice (pslice buf (some a) (some b) ++ ofC [' ']) none (some (-1)) = (buf.drop a).take (b - a) := by
  unfold pslice
  simp only [Option.elim, clip_pos ha, clip_pos hb]
  have : clipAt (((buf.drop a).take (b - a)) ++ ofC [' ']).length (-1) = ((buf.drop a).take (b - a)).length := by
    unfold clipAt; simp [ofC]; omega
  rw [this, Nat.sub_zero, List.drop_zero, List.take_left]
theorem f_read1 (hK : C.K = KK C.w.params) (ok : f.Ok (d + 3) ns) {x sd : Addr} {nl buf : List Nat} {pos : Nat} (hn : [sd, x].Nodup) (hb : buf.length ≤ 1000000) {Q : V → AH → Prop}
    (h : Q (.str ((buf.drop pos).take 1)) (ov [sd, x] [sio nl buf (if pos < buf.length then pos + 1 else pos), .inst 587 sd] σ)) :
    OC C f X ρ (.stat (.ref 533)) [.ref x, .int 1] [] (ov [sd, x] [sio nl buf pos, .inst 587 sd] σ) Q := by
  refine OC.def ok (by rw [hK]; exact g533 _) (Binds.p2 (by rw [hK]; exact b533 _)) fun f' ok' hh => ?_
  clear ok
  rw [hK] at ok' ⊢
  conv at ok' in (namesOf _) => whnf
  walk_at "in"
  walk_at "ww"
  · have e : pos ≥ buf.length := by simp at *; omega
    rw [if_neg (by omega), List.drop_eq_nil_of_le e] at h
    exact h
  · rename_i e1 e2
    simp only [decide_eq_false_iff_not, decide_eq_true_eq] at e1 e2
    rw [show ((pos : Int) + 1) = ((pos + 1 : Nat) : Int) from rfl, read_cut (by omega) (by omega)]
    rw [if_pos (by omega)] at h
    rw [show pos + 1 - pos = 1 by omega]
    exact h
  · rename_i e1 e2
    simp only [decide_eq_false_iff_not, decide_eq_true_eq] at e1 e2
    have e : pos + 1 = buf.length := by omega
    rw [read_cut (by omega) (by omega), ← e]
    rw [if_pos (by omega)] at h
    rw [show pos + 1 - pos = 1 by omega]
    exact h
/-- where the line ends -/
noncomputable def lineEnd (buf : List Nat) (pos : Nat) : Nat := match pos? 10 (buf.drop pos) with
  | some k => pos + k + 1
  | none => buf.length
theorem f_line (hK : C.K = KK C.w.params) (ok : f.Ok (d + 3) ns) {x sd : Addr} {buf : List Nat} {pos : Nat} (hn : [sd, x].Nodup) (hb : buf.length ≤ 1000000) (hp : pos < buf.length) {Q : V → AH → Prop}
    (h : ∀ l, Q (.str l) (ov [sd, x] [sio [10] buf (lineEnd buf pos), .inst 587 sd] σ)) :
    OC C f X ρ (.stat (.ref 385)) [.ref x, .int (-1)] [] (ov [sd, x] [sio [10] buf pos, .inst 587 sd] σ) Q := by
  refine OC.def ok (by rw [hK]; exact g385 _) (Binds.p2 (by rw [hK]; exact b385 _)) fun f' ok' hh => ?_
  clear ok
  rw [hK] at ok' ⊢
  conv at ok' in (namesOf _) => whnf
  walk_at "in"
  walk_at "ww"
  · rename_i e1
    cases hq : pos? 10 (buf.drop pos) with
    | none => rw [hq] at e1; simp at e1
    | some k =>
      have := h (pslice (pslice buf (some (pos : Int)) (some ((pos : Int) + k + 1)) ++ ofC [' ']) none (some (-1)))
      unfold lineEnd at this
      simp only [hq] at this
      exact this
  · rename_i e1
    cases hq : pos? 10 (buf.drop pos) with
    | some k => rw [hq] at e1; simp at e1; omega
    | none =>
      have := h (pslice (pslice buf (some (pos : Int)) (some (buf.length : Int)) ++ ofC [' ']) none (some (-1)))
      unfold lineEnd at this
      simp only [hq] at this
      exact this
/-- at the end nothing is read -/
theorem f_line0 (hK : C.K = KK C.w.params) (ok : f.Ok (d + 3) ns) {x sd : Addr} {buf : List Nat} {pos : Nat} (hn : [sd, x].Nodup) (hb : buf.length ≤ 1000000) (hp : buf.length ≤ pos) {Q : V → AH → Prop}
    (h : ∀ l, Q (.str l) (ov [sd, x] [sio [10] buf pos, .inst 587 sd] σ)) :
    OC C f X ρ (.stat (.ref 385)) [.ref x, .int (-1)] [] (ov [sd, x] [sio [10] buf pos, .inst 587 sd] σ) Q := by
  refine OC.def ok (by rw [hK]; exact g385 _) (Binds.p2 (by rw [hK]; exact b385 _)) fun f' ok' hh => ?_
  clear ok
  rw [hK] at ok' ⊢
  conv at ok' in (namesOf _) => whnf
  walk_at "in"
  walk_at "ww"
  all_goals exact h _
/-- the place behind the line -/
noncomputable def lineOf (buf : List Nat) (pos : Nat) : Nat := if pos < buf.length then lineEnd buf pos else pos
theorem f_lineX (hK : C.K = KK C.w.params) (ok : f.Ok (d + 3) ns) {K : List Addr} {O O' : List AO} (hn : K.Nodup) {x sd : Addr} {buf : List Nat} {pos : Nat} (hb : buf.length ≤ 1000000)
    (g : PutAll K O [sd, x] [sio [10] buf pos, .inst 587 sd] O) (hs : [sd, x].Nodup) (p : PutAll K O [sd, x] [sio [10] buf (lineOf buf pos), .inst 587 sd] O') {Q : V → AH → Prop}
    (h : ∀ l, Q (.str l) (ov K O' σ)) : OC C f X ρ (.stat (.ref 385)) [.ref x, .int (-1)] [] (ov K O σ) Q := by
  rw [← ov_ov hn g]
  by_cases hp : pos < buf.length
  · refine f_line hK ok hs hb hp fun l => ?_
    have := h l
    rw [← ov_ov hn p] at this
    unfold lineOf at this
    rw [if_pos hp] at this; exact this
  · refine f_line0 hK ok hs hb (by omega) fun l => ?_
    have := h l
    rw [← ov_ov hn p] at this
    unfold lineOf at this
    rw [if_neg hp] at this; exact this
theorem f_readline (hK : C.K = KK C.w.params) (ok : f.Ok (d + 5) ns) {x sd : Addr} {buf : List Nat} {pos : Nat} (hn : [sd, x].Nodup) (hb : buf.length ≤ 1000000) {Q : V → AH → Prop}
    (h : ∀ l, Q (.str l) (ov [sd, x] [sio [10] buf (lineOf buf pos), .inst 587 sd] σ)) :
    OC C f X ρ (.stat (.ref 541)) [.ref x] [] (ov [sd, x] [sio [10] buf pos, .inst 587 sd] σ) Q := by
  refine OC.def (bs := [.ref x, .int (-1)]) ok (by rw [hK]; exact g541 _) (Binds.of fun s cargs ckw KI ra rk rkv => ?_) fun f' ok' hh => ?_
  · obtain ⟨_, rfl, r⟩ := ra.one
    have : ckw = [] := by cases ckw with | nil => rfl | cons a b => simp at rk
    subst this
    exact ⟨_, .cons r (.cons .int .nil), fun S => by rw [hK]; exact b541 _ S _⟩
  clear ok
  rw [hK] at ok' ⊢
  conv at ok' in (namesOf _) => whnf
  walk_at "in"
  walk_at "ww"
  exact f_lineX hK ok' hn hb (by walk_at "pall") hn (by walk_at "pall") h
theorem lf_readline (hK : C.K = KK C.w.params) (ok : f.Ok (d + 5) ns) {K : List Addr} {O O' : List AO} (hn : K.Nodup) {x sd : Addr} {buf : List Nat} {pos : Nat} (hb : buf.length ≤ 1000000)
    (g : PutAll K O [sd, x] [sio [10] buf pos, .inst 587 sd] O) (hs : [sd, x].Nodup) (p : PutAll K O [sd, x] [sio [10] buf (lineOf buf pos), .inst 587 sd] O') {Q : V → AH → Prop}
    (h : ∀ l, Q (.str l) (ov K O' σ)) : OC C f X ρ (.stat (.ref 541)) [.ref x] [] (ov K O σ) Q := by
  rw [← ov_ov hn g]
  exact f_readline hK ok hs hb fun l => by rw [ov_ov hn p]; exact h l
theorem lf_read_ch (hK : C.K = KK C.w.params) (ok : f.Ok (d + 3) ns) {K : List Addr} {O O' : List AO} (hn : K.Nodup) {x sd : Addr} {buf : List Nat} {pos ch : Nat} (hb : buf.length ≤ 1000000)
    (g : PutAll K O [sd, x] [sio [10] buf pos, .inst 587 sd] O) (hs : [sd, x].Nodup) (hc : buf[pos]? = some ch) (p : PutAll K O [sd, x] [sio [10] buf (pos + 1), .inst 587 sd] O') {Q : V → AH → Prop}
    (h : Q (.str [ch]) (ov K O' σ)) : OC C f X ρ (.stat (.ref 533)) [.ref x, .int 1] [] (ov K O σ) Q := by
  rw [← ov_ov hn g]
  refine f_read1 hK ok hs hb ?_
  obtain ⟨hlt, e⟩ := List.getElem?_eq_some_iff.mp hc
  rw [if_pos hlt, ov_ov hn p, List.drop_eq_getElem_cons hlt, e]
  exact h
theorem lf_read_eof (hK : C.K = KK C.w.params) (ok : f.Ok (d + 3) ns) {K : List Addr} {O : List AO} (hn : K.Nodup) {x sd : Addr} {buf : List Nat} {pos : Nat} (hb : buf.length ≤ 1000000)
    (g : PutAll K O [sd, x] [sio [10] buf pos, .inst 587 sd] O) (hs : [sd, x].Nodup) (hc : buf[pos]? = none) {Q : V → AH → Prop}
    (h : Q (.str []) (ov K O σ)) : OC C f X ρ (.stat (.ref 533)) [.ref x, .int 1] [] (ov K O σ) Q := by
  rw [← ov_ov hn g]
  refine f_read1 hK ok hs hb ?_
  have := List.getElem?_eq_none_iff.mp hc
  rw [if_neg (by omega), ov_ov hn g, List.drop_eq_nil_of_le this]
  exact h
/-- the property -/
theorem f_pc (hK : C.K = KK C.w.params) (ok : f.Ok (d + 1) ns) {K : List Addr} {O : List AO} (hn : K.Nodup) {self dd : Addr} {vs : List V} {p : List Nat} (g1 : GetO K O self (.inst 722 dd)) (g2 : GetO K O dd (fields lexKP vs)) (gf : GetF lexKP vs (.ofString "_punctuation_chars") (.str p)) {Q : V → AH → Prop}
    (h : Q (.str p) (ov K O σ)) : OCc C f X ρ (.stat (.ref 653)) [.ref self] [] (ov K O σ) fun v σ' => (∀ i, v ≠ .stat (.builtin i)) ∧ Q v σ' := by
  refine OCc.def ok (by rw [hK]; exact g653 _) (Binds.p1 (by rw [hK]; exact b653 _)) fun f' ok' hh => ?_
  clear ok
  rw [hK] at ok' ⊢
  conv at ok' in (namesOf _) => whnf
  walk_at "in"
  walk_at "w"
  walk_at "w"
  walk_at "w"
  walk_at "w"
  refine O1.ov_attr hn g1 g2 (own_lex hK) gf rfl ?_
  show (∀ i, V.str p ≠ .stat (.builtin i)) ∧ Q (.str p) (ov K O σ)
  exact ⟨(fun i q => nomatch q), h⟩

end
section
/-- what a lexer is set to (with punctuation_chars) -/
structure Cfg where
  sio : Addr
  infile : V
  posix : Bool
  eof : V
  comm : List Nat
  wordc : List Nat
  ws : List Nat
  split : Bool
  quotes : List Nat
  escape : List Nat
  escq : List Nat
  pb : Addr
  fs : Addr
  source : V
  punct : List Nat
  pc : Addr
/-- what changes while it reads -/
structure Dy where
  st : V
  tok : List Nat
  ln : Int
  pc : Option Nat
  pos : Nat
  q : Bool
  esc : List Nat
noncomputable abbrev pcV : Option Nat → List V
  | none => []
  | some c => [.str [c]]
noncomputable abbrev lexV (c : Cfg) (st : V) (tok : List Nat) (ln : Int) : List V :=
  [.ref c.sio, c.infile, .bool c.posix, c.eof, .str c.comm, .str c.wordc, .str c.ws, .bool c.split, .str c.quotes, .str c.escape, .str c.escq, st, .ref c.pb, .int ln, .int 0, .str tok, .ref c.fs, c.source, .str c.punct, .ref c.pc]
inductive Out where
  | go (D : Dy)
  | brk (D : Dy)
  | bad
/-- the sign that is read -/
noncomputable def nextC (buf : List Nat) (D : Dy) : Option Nat × Dy := match D.pc with
  | some ch => (some ch, { D with pc := none })
  | none => match buf[D.pos]? with
    | some ch => (some ch, { D with pos := D.pos + 1 })
    | none => (none, D)
/-- is there a token to tell? -/
noncomputable abbrev tell (c : Cfg) (D : Dy) (a b : Out) : Out := cond (!D.tok.isEmpty || (c.posix && D.q)) a b
noncomputable def nxS : Option Nat → List Nat
  | none => []
  | some c => [c]
/-- one turn of the loop in read_token -/
noncomputable def turnE (c : Cfg) (D : Dy) : Out := match D.st with
    | .none => .brk { D with tok := ofC [] }
    | .str s => cond (decide (s = ofC [' '])) (.brk { D with st := .none }) (cond (subS s c.quotes) .bad (cond (subS s c.escape) .bad (cond ([V.str (ofC ['a']), V.str (ofC ['c'])].any (isStrV s)) (.brk { D with st := .none }) .bad)))
    | _ => .bad
noncomputable def turnC (c : Cfg) (buf : List Nat) (D : Dy) (ch : Nat) : Out := match D.st with
    | .none => .brk { D with tok := ofC [] }
    | .str s =>
      cond (decide (s = ofC [' ']))
        (cond (subS [ch] c.ws) (tell c D (.brk D) (.go D))
        (cond (subS [ch] c.comm) (.go { D with pos := lineOf buf D.pos, ln := D.ln + 1 })
        (cond (c.posix && subS [ch] c.escape) (.go { D with esc := ofC ['a'], st := .str [ch] })
        (cond (subS [ch] c.wordc) (.go { D with tok := [ch], st := .str (ofC ['a']) })
        (cond (subS [ch] c.punct) (.go { D with tok := [ch], st := .str (ofC ['c']) })
        (cond (subS [ch] c.quotes) (.go { D with tok := cond c.posix D.tok [ch], st := .str [ch] })
        (cond c.split (.go { D with tok := [ch], st := .str (ofC ['a']) })
        (.brk { D with tok := [ch] }))))))))
      (cond (subS s c.quotes)
        (cond (decide ([ch] = s)) (cond c.posix (.go { D with q := true, st := .str (ofC ['a']) }) (.brk { D with q := true, tok := D.tok ++ [ch], st := .str (ofC [' ']) }))
        (cond (c.posix && (subS [ch] c.escape && subS s c.escq)) (.go { D with q := true, esc := s, st := .str [ch] })
        (.go { D with q := true, tok := D.tok ++ [ch] })))
      (cond (subS s c.escape)
        (.go { D with tok := cond (subS D.esc c.quotes && (!decide ([ch] = s) && !decide ([ch] = D.esc))) (D.tok ++ s ++ [ch]) (D.tok ++ [ch]), st := .str D.esc })
      (cond ([V.str (ofC ['a']), V.str (ofC ['c'])].any (isStrV s))
        (cond (subS [ch] c.ws) (tell c D (.brk { D with st := .str (ofC [' ']) }) (.go { D with st := .str (ofC [' ']) }))
        (cond (subS [ch] c.comm)
          (cond c.posix (tell c D (.brk { D with pos := lineOf buf D.pos, ln := D.ln + 1, st := .str (ofC [' ']) }) (.go { D with pos := lineOf buf D.pos, ln := D.ln + 1, st := .str (ofC [' ']) }))
            (.go { D with pos := lineOf buf D.pos, ln := D.ln + 1 }))
        (cond (decide (s = ofC ['c']))
          (cond (subS [ch] c.punct) (.go { D with tok := D.tok ++ [ch] }) (.brk { D with pc := some ch, st := .str (ofC [' ']) }))
        (cond (c.posix && subS [ch] c.quotes) (.go { D with st := .str [ch] })
        (cond (c.posix && subS [ch] c.escape) (.go { D with esc := ofC ['a'], st := .str [ch] })
        (cond (subS [ch] c.wordc || (subS [ch] c.quotes || (c.split && !subS [ch] c.punct))) (.go { D with tok := D.tok ++ [ch] })
        (tell c D (.brk { D with pc := some ch, st := .str (ofC [' ']) }) (.go { D with pc := some ch, st := .str (ofC [' ']) }))))))))
      .bad)))
    | _ => .bad
noncomputable def turn (c : Cfg) (buf : List Nat) (D : Dy) : Out := match nextC buf D with
  | (none, D) => turnE c D
  | (some ch, D) => turnC c buf { D with ln := cond (decide ([ch] = ofC ['\n'])) (D.ln + 1) D.ln } ch
/-- the loop -/
noncomputable def loop (c : Cfg) (buf : List Nat) : Nat → Dy → Option Dy
  | 0, _ => none
  | n + 1, D => match turn c buf D with
    | .go D' => loop c buf n D'
    | .brk D' => some D'
    | .bad => none
/-- how a turn goes on -/
noncomputable def fin (c : Cfg) (buf : List Nat) (n : Nat) : Out → Option Dy
  | .go D' => loop c buf n D'
  | .brk D' => some D'
  | .bad => none
theorem loop_succ {c : Cfg} {buf : List Nat} {n : Nat} {D : Dy} : loop c buf (n + 1) D = fin c buf n (turn c buf D) := by
  show (match turn c buf D with | .go D' => loop c buf n D' | .brk D' => some D' | .bad => none) = _
  cases turn c buf D <;> rfl
theorem fc_t {c : Cfg} {buf : List Nat} {n : Nat} {E : Dy} {b : Bool} {x y : Out} (h : b = true) (k : fin c buf n (cond b x y) = some E) : fin c buf n x = some E := by subst h; exact k
theorem fc_f {c : Cfg} {buf : List Nat} {n : Nat} {E : Dy} {b : Bool} {x y : Out} (h : b = false) (k : fin c buf n (cond b x y) = some E) : fin c buf n y = some E := by subst h; exact k
theorem fg_t {c : Cfg} {buf : List Nat} {n : Nat} {E : Dy} {b : Bool} {x y : List Nat} {st : V} {ln : Int} {pc : Option Nat} {pos : Nat} {q : Bool} {esc : List Nat} (h : b = true) (k : fin c buf n (.go ⟨st, cond b x y, ln, pc, pos, q, esc⟩) = some E) : fin c buf n (.go ⟨st, x, ln, pc, pos, q, esc⟩) = some E := by subst h; exact k
theorem fg_f {c : Cfg} {buf : List Nat} {n : Nat} {E : Dy} {b : Bool} {x y : List Nat} {st : V} {ln : Int} {pc : Option Nat} {pos : Nat} {q : Bool} {esc : List Nat} (h : b = false) (k : fin c buf n (.go ⟨st, cond b x y, ln, pc, pos, q, esc⟩) = some E) : fin c buf n (.go ⟨st, y, ln, pc, pos, q, esc⟩) = some E := by subst h; exact k
theorem fr_t {P : Prop} {c : Cfg} {buf : List Nat} {n : Nat} {E : Dy} {b : Bool} {x y : Out} (h : b = true) (g : fin c buf n x = some E → P) (k : fin c buf n (cond b x y) = some E) : P := g (fc_t h k)
theorem fr_f {P : Prop} {c : Cfg} {buf : List Nat} {n : Nat} {E : Dy} {b : Bool} {x y : Out} (h : b = false) (g : fin c buf n y = some E → P) (k : fin c buf n (cond b x y) = some E) : P := g (fc_f h k)
theorem fs_t {P : Prop} {c : Cfg} {buf : List Nat} {n : Nat} {E : Dy} {b : Bool} {x y : List Nat} {st : V} {ln : Int} {pc : Option Nat} {pos : Nat} {q : Bool} {esc : List Nat} (h : b = true) (g : fin c buf n (.go ⟨st, x, ln, pc, pos, q, esc⟩) = some E → P) (k : fin c buf n (.go ⟨st, cond b x y, ln, pc, pos, q, esc⟩) = some E) : P := g (fg_t h k)
theorem fs_f {P : Prop} {c : Cfg} {buf : List Nat} {n : Nat} {E : Dy} {b : Bool} {x y : List Nat} {st : V} {ln : Int} {pc : Option Nat} {pos : Nat} {q : Bool} {esc : List Nat} (h : b = false) (g : fin c buf n (.go ⟨st, y, ln, pc, pos, q, esc⟩) = some E → P) (k : fin c buf n (.go ⟨st, cond b x y, ln, pc, pos, q, esc⟩) = some E) : P := g (fg_f h k)
theorem b_and_t {x y : Bool} (h : x = true) (k : y = true) : (x && y) = true := by subst h; exact k
theorem b_and_f1 {x y : Bool} (h : x = false) : (x && y) = false := by subst h; rfl
theorem b_and_f2 {x y : Bool} (k : y = false) : (x && y) = false := by subst k; exact Bool.and_false x
theorem b_or_t1 {x y : Bool} (h : x = true) : (x || y) = true := by subst h; rfl
theorem b_or_t2 {x y : Bool} (k : y = true) : (x || y) = true := by subst k; exact Bool.or_true x
theorem b_or_f {x y : Bool} (h : x = false) (k : y = false) : (x || y) = false := by subst h; exact k
theorem b_oa_t {x y z : Bool} (h : y = true) (k : (x || z) = true) : (x || (y && z)) = true := by subst h; exact k
theorem b_oa_f {x y z : Bool} (k : (x || z) = false) : (x || (y && z)) = false := by cases x <;> cases y <;> first | rfl | exact k
theorem b_not_t {x : Bool} (h : x = false) : (!x) = true := by subst h; rfl
theorem b_not_f {x : Bool} (h : x = true) : (!x) = false := by subst h; rfl
theorem ok_same {t N n : Nat} (h : t + 2 * (n + 1) ≤ N) : t + 2 * n ≤ N := by omega
theorem ok_one {t N n : Nat} {ch : Nat} (h : t + 2 * (n + 1) ≤ N) : [ch].length + 2 * n ≤ N := by show 1 + _ ≤ _; omega
theorem ok_add {tok : List Nat} {N n : Nat} {ch : Nat} (h : tok.length + 2 * (n + 1) ≤ N) : (tok ++ [ch]).length + 2 * n ≤ N := by rw [List.length_append]; show _ + 1 + _ ≤ _; omega
theorem ok_add2 {tok s : List Nat} {N n : Nat} {ch : Nat} (h : tok.length + 2 * (n + 1) ≤ N) (hs : s.length ≤ 1) : (tok ++ s ++ [ch]).length + 2 * n ≤ N := by rw [List.length_append, List.length_append]; show _ + 1 + _ ≤ _; omega
noncomputable def resV (c : Cfg) (E : Dy) : V := cond (c.posix && (!E.q && decide (E.tok = ofC []))) .none (.str E.tok)
theorem rv_t {b : Bool} {x y : V} {Q : V → AH → Prop} {τ : AH} (e : b = true) (h : Q (cond b x y) τ) : Q x τ := by subst e; exact h
theorem rv_f {b : Bool} {x y : V} {Q : V → AH → Prop} {τ : AH} (e : b = false) (h : Q (cond b x y) τ) : Q y τ := by subst e; exact h
variable {C : Cx} {f : Fx} {ns : List (PySem.Str × NameKind)} {d : Nat} {X : XT} {ρ : Loc} {σ : AH}
local macro_rules | `(tactic| walk_at "fns") => `(tactic| first
  | ((with_reducible apply lf_read_ch); (focus (walk_at "asm")); (focus (walk_at "asm")); (focus (walk_at "asm")); (focus (walk_at "asm")); (focus (walk_at "pall")); (focus (walk_at "nd")); (focus (walk_at "asm")); (focus (walk_at "pall")))
  | ((with_reducible apply lf_read_eof); (focus (walk_at "asm")); (focus (walk_at "asm")); (focus (walk_at "asm")); (focus (walk_at "asm")); (focus (walk_at "pall")); (focus (walk_at "nd")); (focus (walk_at "asm")))
  | ((with_reducible apply lf_readline); (focus (walk_at "asm")); (focus (walk_at "asm")); (focus (walk_at "asm")); (focus (walk_at "asm")); (focus (walk_at "pall")); (focus (walk_at "nd")); (focus (walk_at "pall")); intro _))
local macro_rules | `(tactic| walk_at "pfns") => `(tactic| ((with_reducible apply f_pc); (focus (walk_at "asm")); (focus ((with_reducible apply Fx.Ok.in1); walk_at "asm")); (focus (walk_at "asm")); (focus (walk_at "gGetO")); (focus (walk_at "gGetO")); (focus (walk_at "gGetF"))))
local macro_rules | `(tactic| walk_at "cond") => `(tactic| (first | (simp only [pcV, List.isEmpty_cons, List.isEmpty_nil, Bool.not_true, Bool.not_false]; done) | (simp only [pcV, List.isEmpty_cons, List.isEmpty_nil, Bool.not_true, Bool.not_false, *]; done)))
/-- where the lexer lies -/
noncomputable abbrev lexO (c : Cfg) (dd : Addr) (D : Dy) (sd : Addr) (buf : List Nat) : List AO := [.deque (pcV D.pc), sio [10] buf D.pos, .inst 587 sd, fields lexKP (lexV c D.st D.tok D.ln), .inst 722 dd]
noncomputable abbrev lexA (c : Cfg) (self dd sd : Addr) : List Addr := [c.pc, sd, c.sio, dd, self]
local macro_rules | `(tactic| walk_at "ite") => `(tactic| first | with_reducible refine ite_t ?_ | with_reducible refine ite_f ?_ | with_reducible refine and_last ?_ | with_reducible refine or_last ?_ | with_reducible refine ite_e (c := true) (by with_reducible assumption) (ite_t ?_) | with_reducible refine ite_e (c := false) (by with_reducible assumption) (ite_f ?_) | with_reducible refine ite_e (c := true) (by walk_at "cond") (ite_t ?_) | with_reducible refine ite_e (c := false) (by walk_at "cond") (ite_f ?_) | ((with_reducible apply and_merge); (focus (intro Q' hQ; walk_at "ww"; exact hQ))) | ((with_reducible apply or_merge); (focus (intro Q' hQ; walk_at "ww"; exact hQ))))
local macro_rules | `(tactic| walk_at "bt") => `(tactic| first | with_reducible assumption | ((with_reducible apply b_and_t); (focus (walk_at "bt")); walk_at "bt") | ((with_reducible apply b_and_f1); walk_at "bt") | ((with_reducible apply b_and_f2); walk_at "bt") | ((with_reducible apply b_or_t1); walk_at "bt") | ((with_reducible apply b_or_t2); walk_at "bt") | ((with_reducible apply b_or_f); (focus (walk_at "bt")); walk_at "bt") | ((with_reducible apply b_oa_t); (focus (with_reducible assumption)); (with_reducible assumption)) | ((with_reducible apply b_oa_f); (with_reducible assumption)) | ((with_reducible apply b_not_t); walk_at "bt") | ((with_reducible apply b_not_f); walk_at "bt"))
local macro_rules | `(tactic| walk_at "okd") => `(tactic| (refine ⟨?_, ?_, ?_⟩; (focus (first | exact ok_same (by assumption) | exact ok_one (by assumption) | exact ok_add (by assumption) | exact ok_add2 (by assumption) (by assumption))); (focus (first | assumption | exact Nat.le_refl 1)); first | assumption | exact Nat.le_refl 1 | exact trivial))
local macro_rules | `(tactic| walk_at "lfB") => `(tactic| (simp only [*, tell, cond_true, cond_false, Bool.true_and, Bool.false_and, Bool.and_true, Bool.and_false, Bool.or_true, Bool.or_false, Bool.true_or, Bool.false_or, Bool.not_true, Bool.not_false] at hl))
noncomputable def okD (n : Nat) (D : Dy) : Prop := D.tok.length + 2 * n ≤ 4000000 ∧ D.esc.length ≤ 1 ∧ (match D.st with | .str s => s.length ≤ 1 | _ => True)
/-- ahead of a turn -/
inductive RtI (c : Cfg) (self dd sd : Addr) (buf : List Nat) (σ : AH) (E : Dy) (n : Nat) : Loc → AH → Prop
  | mk (D : Dy) (a : Option V) (hk : okD n D) (hl : loop c buf n D = some E) : RtI c self dd sd buf σ E n [some (V.ref self), some (.bool (Dy.q D)), some (.str D.esc), a, none, none, none, none] (ov (lexA c self dd sd) (lexO c dd D sd buf) σ)
/-- behind the loop -/
inductive RtE (c : Cfg) (self dd sd : Addr) (buf : List Nat) (σ : AH) (E : Dy) : Fl → Loc → AH → Prop
  | mk (a : Option V) (q : Bool) (e : E.q = q) (esc : List Nat) (τ : AH) (h : τ = ov (lexA c self dd sd) (lexO c dd E sd buf) σ) : RtE c self dd sd buf σ E .next [some (V.ref self), some (.bool q), some (.str esc), a, none, none, none, none] τ
theorem wh_go {c : Cfg} {self dd sd : Addr} {buf : List Nat} {σ : AH} {E : Dy} {n : Nat} {ρ : Loc} {τ : AH} (h : RtI c self dd sd buf σ E n ρ τ) : kWh (RtI c self dd sd buf σ E) (n + 1) ρ τ := ⟨n, Nat.lt_succ_self n, h⟩
theorem f_read_token (hK : C.K = KK C.w.params) (ok : f.Ok (d + 8) ns) {c : Cfg} {self dd sd : Addr} {buf : List Nat} (hn : (lexA c self dd sd).Nodup) (hb : buf.length ≤ 1000000) (hp : c.punct.isEmpty = false) (hpl : c.punct.length ≤ 16777216)
    {D E : Dy} {n : Nat} (hq : D.q = false) (he : D.esc = [32]) (hk : okD n D) (hl : loop c buf n D = some E) {Q : V → AH → Prop}
    (h : Q (resV c E) (ov (lexA c self dd sd) (lexO c dd { E with tok := [] } sd buf) σ)) :
    OC C f X ρ (.stat (.ref 690)) [.ref self] [] (ov (lexA c self dd sd) (lexO c dd D sd buf) σ) Q := by
  refine OC.def ok (by rw [hK]; exact g690 _) (Binds.p1 (by rw [hK]; exact b690 _)) fun f' ok' hh => ?_
  clear ok
  rw [hK] at ok' ⊢
  conv at ok' in (namesOf _) => whnf
  walk_at "in"
  walk_at "ww"
  refine Ex.mono (Q := RtE c self dd sd buf σ E) ?_ ?_
  rotate_left
  · rintro _ _ _ ⟨a, _, rfl, esc, _, rfl⟩
    clear hl hk hq he
    walk_at "ww"
    all_goals (show Q _ (ov (lexA c self dd sd) (lexO c dd { E with tok := [] } sd buf) σ); first | exact rv_t (by assumption) h | exact rv_f (by assumption) h)
  refine Ex.while XOk.no (RtI c self dd sd buf σ E) ?_ n (by have := RtI.mk (self := self) (dd := dd) (sd := sd) (σ := σ) D none hk hl; rw [hq, he] at this; exact this)
  clear hl hk hq he D n
  rintro n _ _ ⟨⟨st, tok, ln, pc, pos, q, esc⟩, a, ⟨hk1, hk2, hk3⟩, hl⟩
  cases n with
  | zero => cases hl
  | succ n =>
  rw [loop_succ] at hl
  try dsimp only at hk1 hk2 hk3
  walk_at "w"
  walk_at "w"
  walk_at "w"
  walk_at "w"
  refine Ex.cons (Ex.mono (Q := fun fl ρ₁ σ₁ => fl = .next ∧ ∃ (nx : Option Nat) (pos' : Nat), nextC buf ⟨st, tok, ln, pc, pos, q, esc⟩ = (nx, ⟨st, tok, ln, none, pos', q, esc⟩) ∧
    ρ₁ = [some (V.ref self), some (.bool q), some (.str esc), some (.str (nxS nx)), none, none, none, none] ∧ σ₁ = ov (lexA c self dd sd) (lexO c dd ⟨st, tok, ln, none, pos', q, esc⟩ sd buf) σ) ?_ ?_)
  · cases pc with
    | some ch =>
      walk_at "ww"
      all_goals exact ⟨rfl, some ch, pos, rfl, rfl, rfl⟩
    | none =>
      cases hg : buf[pos]? with
      | none =>
        walk_at "ww"
        all_goals exact ⟨rfl, none, pos, by simp [nextC, hg], rfl, rfl⟩
      | some ch =>
        walk_at "ww"
        all_goals exact ⟨rfl, some ch, pos + 1, by simp [nextC, hg], rfl, rfl⟩
  rintro _ _ _ ⟨rfl, nx, pos', hnx, rfl, rfl⟩
  unfold turn at hl
  rw [hnx] at hl
  clear hnx pos pc a
  try dsimp only
  try dsimp only at hl
  cases nx with
  | none =>
    try dsimp only [nxS]
    try dsimp only at hl
    cases st with
    | none =>
      (try unfold turnE at hl); (try unfold turnC at hl); (try dsimp only [tell] at hl)
      walk_at "ww"
      all_goals (((try dsimp only at *); (revert hl); (repeat (first | ((with_reducible refine fr_t ?_ ?_); (focus (walk_at "bt"))) | ((with_reducible refine fr_f ?_ ?_); (focus (walk_at "bt"))) | ((with_reducible refine fs_t ?_ ?_); (focus (walk_at "bt"))) | ((with_reducible refine fs_f ?_ ?_); (focus (walk_at "bt"))))); intro hl; first | (cases hl; done) | (cases Option.some.inj hl; exact RtE.mk _ _ rfl _ _ rfl) | exact wh_go (RtI.mk ⟨_, _, _, none, _, _, _⟩ _ (by walk_at "okd") hl) | exact wh_go (RtI.mk ⟨_, _, _, some _, _, _, _⟩ _ (by walk_at "okd") hl)))
    | str s =>
      (try unfold turnE at hl); (try unfold turnC at hl); (try dsimp only [tell] at hl)
      walk_at "ww"
      all_goals (((try dsimp only at *); (revert hl); (repeat (first | ((with_reducible refine fr_t ?_ ?_); (focus (walk_at "bt"))) | ((with_reducible refine fr_f ?_ ?_); (focus (walk_at "bt"))) | ((with_reducible refine fs_t ?_ ?_); (focus (walk_at "bt"))) | ((with_reducible refine fs_f ?_ ?_); (focus (walk_at "bt"))))); intro hl; first | (cases hl; done) | (cases Option.some.inj hl; exact RtE.mk _ _ rfl _ _ rfl) | exact wh_go (RtI.mk ⟨_, _, _, none, _, _, _⟩ _ (by walk_at "okd") hl) | exact wh_go (RtI.mk ⟨_, _, _, some _, _, _, _⟩ _ (by walk_at "okd") hl)))
    | _ => cases hl
  | some ch =>
    try dsimp only [nxS]
    try dsimp only at hl
    refine Ex.cons (Ex.mono (Q := fun fl ρ₁ σ₁ => fl = .next ∧
      ρ₁ = [some (V.ref self), some (.bool q), some (.str esc), some (.str [ch]), none, none, none, none] ∧ σ₁ = ov (lexA c self dd sd) (lexO c dd ⟨st, tok, cond (decide ([ch] = ofC ['\n'])) (ln + 1) ln, none, pos', q, esc⟩ sd buf) σ) ?_ ?_)
    · walk_at "ww"
      · rename_i e; rw [e]; exact ⟨rfl, rfl, rfl⟩
      · rename_i e; rw [e]; exact ⟨rfl, rfl, rfl⟩
    rintro _ _ _ ⟨rfl, rfl, rfl⟩
    generalize cond (decide ([ch] = ofC ['\n'])) (ln + 1) ln = ln' at hl ⊢
    try dsimp only
    cases st with
    | none =>
      (try unfold turnE at hl); (try unfold turnC at hl); (try dsimp only [tell] at hl)
      walk_at "ww"
      all_goals (((try dsimp only at *); (revert hl); (repeat (first | ((with_reducible refine fr_t ?_ ?_); (focus (walk_at "bt"))) | ((with_reducible refine fr_f ?_ ?_); (focus (walk_at "bt"))) | ((with_reducible refine fs_t ?_ ?_); (focus (walk_at "bt"))) | ((with_reducible refine fs_f ?_ ?_); (focus (walk_at "bt"))))); intro hl; first | (cases hl; done) | (cases Option.some.inj hl; exact RtE.mk _ _ rfl _ _ rfl) | exact wh_go (RtI.mk ⟨_, _, _, none, _, _, _⟩ _ (by walk_at "okd") hl) | exact wh_go (RtI.mk ⟨_, _, _, some _, _, _, _⟩ _ (by walk_at "okd") hl)))
    | str s =>
      (try unfold turnE at hl); (try unfold turnC at hl); (try dsimp only [tell] at hl)
      walk_at "ww"
      all_goals (((try dsimp only at *); (revert hl); (repeat (first | ((with_reducible refine fr_t ?_ ?_); (focus (walk_at "bt"))) | ((with_reducible refine fr_f ?_ ?_); (focus (walk_at "bt"))) | ((with_reducible refine fs_t ?_ ?_); (focus (walk_at "bt"))) | ((with_reducible refine fs_f ?_ ?_); (focus (walk_at "bt"))))); intro hl; first | (cases hl; done) | (cases Option.some.inj hl; exact RtE.mk _ _ rfl _ _ rfl) | exact wh_go (RtI.mk ⟨_, _, _, none, _, _, _⟩ _ (by walk_at "okd") hl) | exact wh_go (RtI.mk ⟨_, _, _, some _, _, _, _⟩ _ (by walk_at "okd") hl)))
    | _ => cases hl

end
section
variable {C : Cx} {f : Fx} {ns : List (PySem.Str × NameKind)} {d : Nat} {X : XT} {ρ : Loc} {σ : AH}
local macro_rules | `(tactic| walk_at "cond") => `(tactic| (first | (simp only [pcV, List.isEmpty_cons, List.isEmpty_nil, Bool.not_true, Bool.not_false]; done)))
theorem lf_read_token (hK : C.K = KK C.w.params) (ok : f.Ok (d + 8) ns) {K : List Addr} {O O' : List AO} (hN : K.Nodup) {c : Cfg} {self dd sd : Addr} {buf : List Nat} (hb : buf.length ≤ 1000000) (hp : c.punct.isEmpty = false) (hpl : c.punct.length ≤ 16777216)
    {D E : Dy} {n : Nat} (hq : D.q = false) (he : D.esc = [32]) (hk : okD n D) (hl : loop c buf n D = some E)
    (g : PutAll K O (lexA c self dd sd) (lexO c dd D sd buf) O) (hn : (lexA c self dd sd).Nodup) (p : PutAll K O (lexA c self dd sd) (lexO c dd { E with tok := [] } sd buf) O') {Q : V → AH → Prop}
    (h : Q (resV c E) (ov K O' σ)) : OC C f X ρ (.stat (.ref 690)) [.ref self] [] (ov K O σ) Q := by
  rw [← ov_ov hN g]
  exact f_read_token hK ok hn hb hp hpl hq he hk hl (by rw [ov_ov hN p]; exact h)
noncomputable abbrev lexB (c : Cfg) (self dd sd : Addr) : List Addr := [c.pc, c.fs, c.pb, sd, c.sio, dd, self]
noncomputable abbrev lexP (c : Cfg) (dd : Addr) (D : Dy) (sd : Addr) (buf : List Nat) (pb : List V) : List AO := [.deque (pcV D.pc), .deque [], .deque pb, sio [10] buf D.pos, .inst 587 sd, fields lexKP (lexV c D.st D.tok D.ln), .inst 722 dd]
theorem f_push (hK : C.K = KK C.w.params) (ok : f.Ok (d + 1) ns) {c : Cfg} {self dd sd : Addr} {buf : List Nat} (hn : (lexB c self dd sd).Nodup) {D : Dy} {pb : List V} (hz : pb.length ≤ 1000000) {v : V} {Q : V → AH → Prop}
    (h : Q .none (ov (lexB c self dd sd) (lexP c dd D sd buf (v :: pb)) σ)) : OC C f X ρ (.stat (.ref 661)) [.ref self, v] [] (ov (lexB c self dd sd) (lexP c dd D sd buf pb) σ) Q := by
  refine OC.def ok (by rw [hK]; exact g661 _) (Binds.p2 (by rw [hK]; exact b661 _)) fun f' ok' hh => ?_
  clear ok
  rw [hK] at ok' ⊢
  conv at ok' in (namesOf _) => whnf
  walk_at "in"
  walk_at "ww"
  exact h
theorem f_get_pile (hK : C.K = KK C.w.params) (ok : f.Ok (d + 1) ns) {c : Cfg} {self dd sd : Addr} {buf : List Nat} (hn : (lexB c self dd sd).Nodup) {D : Dy} {pb : List V} (hz : pb.length ≤ 999999) (hz1 : pb.length + 1 ≤ 1000000) {v : V} {Q : V → AH → Prop}
    (h : Q v (ov (lexB c self dd sd) (lexP c dd D sd buf pb) σ)) : OC C f X ρ (.stat (.ref 683)) [.ref self] [] (ov (lexB c self dd sd) (lexP c dd D sd buf (v :: pb)) σ) Q := by
  refine OC.def ok (by rw [hK]; exact g683 _) (Binds.p1 (by rw [hK]; exact b683 _)) fun f' ok' hh => ?_
  clear ok
  rw [hK] at ok' ⊢
  conv at ok' in (namesOf _) => whnf
  walk_at "in"
  walk_at "ww"
  exact h
/-- law 04: posix=False, no source, an empty stack of streams -/
theorem f_get_text (hK : C.K = KK C.w.params) (ok : f.Ok (d + 9) ns) {c : Cfg} {self dd sd : Addr} {buf : List Nat} (hn : (lexB c self dd sd).Nodup) (hb : buf.length ≤ 1000000) (hp : c.punct.isEmpty = false) (hpl : c.punct.length ≤ 16777216)
    {D E : Dy} {n : Nat} (hq : D.q = false) (he : D.esc = [32]) (hk : okD n D) (hl : loop c buf n D = some E) (hpo : c.posix = false) (hso : c.source = .none) (heo : c.eof = .str []) {Q : V → AH → Prop}
    (h : Q (.str E.tok) (ov (lexB c self dd sd) (lexP c dd { E with tok := [] } sd buf []) σ)) : OC C f X ρ (.stat (.ref 683)) [.ref self] [] (ov (lexB c self dd sd) (lexP c dd D sd buf []) σ) Q := by
  obtain ⟨sio', infile, posix, eof, comm, wordc, ws, split, quotes, escape, escq, pb, fs, source, punct, pc⟩ := c
  simp only at hpo hso heo
  subst hpo hso heo
  refine OC.def ok (by rw [hK]; exact g683 _) (Binds.p1 (by rw [hK]; exact b683 _)) fun f' ok' hh => ?_
  clear ok
  rw [hK] at ok' ⊢
  conv at ok' in (namesOf _) => whnf
  walk_at "in"
  walk_at "ww"
  refine lf_read_token (c := ⟨sio', infile, false, .str [], comm, wordc, ws, split, quotes, escape, escq, pb, fs, .none, punct, pc⟩) (self := self) (dd := dd) (sd := sd) (O' := lexP ⟨sio', infile, false, .str [], comm, wordc, ws, split, quotes, escape, escq, pb, fs, .none, punct, pc⟩ dd { E with tok := [] } sd buf []) hK ok' hn hb hp hpl hq he hk hl ?_ (by walk_at "nd") ?_ ?_
  · walk_at "pall"
  · walk_at "pall"
  simp only [resV, Bool.false_and, cond_false]
  walk_at "ww"
  refine Ex.while XOk.no (fun n ρ' σ' => ρ' = [some (V.ref self), none, some (V.str E.tok), none, none, none, none, none] ∧ σ' = ov (lexB ⟨sio', infile, false, .str [], comm, wordc, ws, split, quotes, escape, escq, pb, fs, .none, punct, pc⟩ self dd sd) (lexP ⟨sio', infile, false, .str [], comm, wordc, ws, split, quotes, escape, escq, pb, fs, .none, punct, pc⟩ dd { E with tok := [] } sd buf []) σ) ?_ 0 ⟨rfl, rfl⟩
  rintro n _ _ ⟨rfl, rfl⟩
  walk_at "ww"
  · rename_i e
    simp only [decide_eq_true_eq] at e
    rw [e] at h
    exact h
  · exact h

end
section
variable {C : Cx} {f : Fx} {ns : List (PySem.Str × NameKind)} {d : Nat} {X : XT} {ρ : Loc} {σ : AH} {K : List Addr} {O O' : List AO}
local macro_rules | `(tactic| walk_at "globs") => `(tactic| first | with_reducible exact gl_BytesIO (by walk_at "asm") | with_reducible exact gl_object (by walk_at "asm"))
local macro_rules | `(tactic| walk_at "meth") => `(tactic| with_reducible exact m_translated (by walk_at "asm"))
local macro_rules | `(tactic| walk_at "keeps") => `(tactic| with_reducible exact kp_m_translated (by walk_at "asm"))
local macro_rules | `(tactic| walk_at "o2") => `(tactic| first | with_reducible refine O2.isnot_stat (in_587_340 (by walk_at "asm")) ?_ | with_reducible refine O2.isnot_stat (in_587_587 (by walk_at "asm")) ?_)
local macro_rules | `(tactic| walk_at "om") => `(tactic| with_reducible refine om_obj_new (by walk_at "asm") ?_)
theorem f_new (hK : C.K = KK C.w.params) (ok : f.Ok (d + 1) ns) (hn : K.Nodup) (hl : K.length = O.length) {a : V} {Q : V → AH → Prop} (h : ∀ x dx, (dx :: x :: K).Nodup → Q (.ref x) (ov (dx :: x :: K) (fields sioK [] :: .inst 587 dx :: O) σ)) :
    OCc C f X ρ (.stat (.ref 80)) [.stat (.ref 587), a] [] (ov K O σ) Q := by
  refine OCc.defE ok (by rw [hK]; exact g80 _) (BindsE.star1 fun S x y ca => by rw [hK]; exact bs80 _ S x y ca) fun f' bs hB _ ok' hh => ?_
  obtain ⟨y, rfl⟩ := hB
  clear ok
  rw [hK] at ok' ⊢
  conv at ok' in (namesOf _) => whnf
  walk_at "in"
  walk_at "ww"
  refine OC.ov_obj_new (ks := sioK) hn hl (by rw [hK]; exact nw587 _) (by rw [hK]; exact ck587 _) (by rw [hK]; exact mh587 _) fun x dx n => ?_
  exact h x dx n
theorem f_translated (hK : C.K = KK C.w.params) (ok : f.Ok (d + 1) ns) {x sd : Addr} {vs : List V} {l : List Nat} (hn : [sd, x].Nodup) {Q : V → AH → Prop} (h : Q (.str l) (ov [sd, x] [fields sioK (.str [10] :: vs), .inst 587 sd] σ)) :
    OC C f X ρ (.stat (.ref 364)) [.ref x, .str l] [] (ov [sd, x] [fields sioK (.str [10] :: vs), .inst 587 sd] σ) Q := by
  refine OC.def ok (by rw [hK]; exact g364 _) (Binds.p2 (by rw [hK]; exact b364 _)) fun f' ok' hh => ?_
  clear ok
  rw [hK] at ok' ⊢
  conv at ok' in (namesOf _) => whnf
  walk_at "in"
  walk_at "ww"
  exact h
theorem lf_translated (hK : C.K = KK C.w.params) (ok : f.Ok (d + 1) ns) (hn : K.Nodup) {x sd : Addr} {vs : List V} {l : List Nat} (g : PutAll K O [sd, x] [fields sioK (.str [10] :: vs), .inst 587 sd] O) (hs : [sd, x].Nodup) {Q : V → AH → Prop} (h : Q (.str l) (ov K O σ)) :
    OC C f X ρ (.stat (.ref 364)) [.ref x, .str l] [] (ov K O σ) Q := OC.lift hn (fun _ _ h => f_translated hK ok hs h) g g h
local macro_rules | `(tactic| walk_at "fns") => `(tactic| ((with_reducible apply lf_translated); (focus (walk_at "asm")); (focus (walk_at "asm")); (focus (walk_at "asm")); (focus (walk_at "pall")); (focus (walk_at "nd"))))
theorem f_sinit (hK : C.K = KK C.w.params) (ok : f.Ok (d + 2) ns) {x sd : Addr} {l : List Nat} (hn : [sd, x].Nodup) {Q : V → AH → Prop} (h : Q .none (ov [sd, x] [sio [10] l 0, .inst 587 sd] σ)) :
    OCc C f X ρ (.stat (.ref 357)) [.ref x, .str l] [] (ov [sd, x] [fields sioK [], .inst 587 sd] σ) Q := by
  refine OCc.def (bs := [.ref x, .str l, .str [10]]) ok (by rw [hK]; exact g357 _) (Binds.of fun s cargs ckw KI ra rk rkv => ?_) fun f' ok' hh => ?_
  · obtain ⟨_, _, rfl, r, r2⟩ := ra.two
    have : ckw = [] := by cases ckw with | nil => rfl | cons a b => simp at rk
    subst this
    exact ⟨_, .cons r (.cons r2 (.cons .str .nil)), fun S => by rw [hK]; exact b357 _ S _ _⟩
  clear ok
  rw [hK] at ok' ⊢
  conv at ok' in (namesOf _) => whnf
  walk_at "in"
  walk_at "ww"
  exact h
/-- StringIO(text) -/
theorem f_StringIO (hK : C.K = KK C.w.params) (ok : f.Ok (d + 3) ns) (hn : K.Nodup) (hl : K.length = O.length) {l : List Nat} {Q : V → AH → Prop} (h : ∀ x sd, (sd :: x :: K).Nodup → Q (.ref x) (ov (sd :: x :: K) (sio [10] l 0 :: .inst 587 sd :: O) σ)) :
    OC C f X ρ (.stat (.ref 587)) [.str l] [] (ov K O σ) Q := OCc.oc <| by
  refine OCc.ov_makeN (ks := sioK) ok (by rw [hK]; exact mk587 _) (fun S => by rw [hK]; exact md587 _ S) (fun f' ok' hh => ?_) fun f' x dx ok' hh n => ?_
  · exact f_new hK ok' hn hl fun x dx n => ⟨x, dx, rfl, n, rfl⟩
  · exact f_sinit (σ := ov K O σ) hK ok' (n.sublist (by simp)) ⟨rfl, h x dx n⟩

end
section
variable {C : Cx} {f : Fx} {ns : List (PySem.Str × NameKind)} {d : Nat} {X : XT} {ρ : Loc} {σ : AH} {K : List Addr} {O O' : List AO}
local macro_rules | `(tactic| walk_at "len") => `(tactic| first | rfl | (simp only [List.length_cons]; omega))
local macro_rules | `(tactic| walk_at "globs") => `(tactic| first | with_reducible exact gl_deque (by walk_at "asm"))
local macro_rules | `(tactic| walk_at "fns") => `(tactic| first
  | ((with_reducible apply f_StringIO); (focus (walk_at "asm")); (focus (walk_at "asm")); (focus (walk_at "asm")); (focus (walk_at "len")); intro _ _ _)
  | ((with_reducible apply OC.deque); (focus (walk_at "asm")); (focus (walk_at "len")); intro _ _))
local macro_rules | `(tactic| walk_at "o2") => `(tactic| with_reducible refine O2.is_bool_bool ?_)
local macro_rules | `(tactic| walk_at "ev") => `(tactic| ((with_reducible apply Ev.ov_fromkeys); (focus (walk_at "asm")); (focus (walk_at "asm")); (focus (walk_at "gGlobAt")); (focus (walk_at "glob")); (focus (walk_at "gGetAt")); (focus (walk_at "sz")); (focus (exact big (by walk_at "asm"))); (focus (with_unfolding_all rfl)); (focus (with_unfolding_all rfl)); (focus (walk_at "asm")); (focus (walk_at "len")); intro _ _ _ _))
local macro_rules | `(tactic| walk_at "om") => `(tactic| first | with_reducible refine OM.maketrans ?_ | with_reducible refine OM.str slot_tr type_tr ?_)
local macro_rules | `(tactic| walk_at "oc") => `(tactic| first
  | with_reducible refine OC.cat0 ?_
  | ((with_reducible apply OC.ov_maketrans); (focus (walk_at "asm")); (focus (walk_at "len")); (focus (walk_at "gGetO")); (focus (walk_at "asm")); (focus (walk_at "sz")); (focus (exact big (by walk_at "asm"))); intro _ _ _ _)
  | ((with_reducible apply OC.ov_translateA); (focus (walk_at "asm")); (focus (walk_at "asm")); (focus (walk_at "gGetO")); (focus (walk_at "asm")); (focus (walk_at "sz")); (focus (decide +kernel)); (focus (decide +kernel))))
/-- the sign's own letters of a word -/
noncomputable def wc04 : List Nat := ofC ['a', 'b', 'c', 'd', 'f', 'e', 'g', 'h', 'i', 'j', 'k', 'l', 'm', 'n', 'o', 'p', 'q', 'r', 's', 't', 'u', 'v', 'w', 'x', 'y', 'z', 'A', 'B', 'C', 'D', 'E', 'F', 'G', 'H', 'I', 'J', 'K', 'L', 'M', 'N', 'O', 'P', 'Q', 'R', 'S', 'T', 'U', 'V', 'W', 'X', 'Y', 'Z', '0', '1', '2', '3', '4', '5', '6', '7', '8', '9', '_'] ++ ofC ['~', '-', '.', '/', '*', '?', '=']
noncomputable def pu04 : List Nat := ofC ['(', ')', ';', '<', '>', '|', '&']
theorem wc04_filter : (wc04.filter fun c => !pu04.contains c) = wc04 := by decide +kernel
/-- a lexer as it is made -/
noncomputable abbrev c04 (split : Bool) (sio pb fs pc : Addr) : Cfg := { sio, infile := .none, posix := false, eof := .str [], comm := [35], wordc := wc04, ws := [32, 9, 13, 10], split, quotes := [39, 34], escape := [92], escq := [34], pb, fs, source := .none, punct := pu04, pc }
noncomputable abbrev D0 : Dy := { st := .str [32], tok := [], ln := 1, pc := none, pos := 0, q := false, esc := [32] }
theorem f_init (hK : C.K = KK C.w.params) (ok : f.Ok (d + 4) ns) (hA : f.A.handled = none) {self dd : Addr} {buf : List Nat} (hn : (dd :: self :: K).Nodup) (hl : K.length = O.length) (hb : buf.length ≤ 1000000) {Q : V → AH → Prop}
    (h : ∀ pc fs pb sd sio, (pc :: fs :: pb :: sd :: sio :: dd :: self :: K).Nodup → Q .none (ov (pc :: fs :: pb :: sd :: sio :: dd :: self :: K) (lexP (c04 false sio pb fs pc) dd D0 sd buf [] ++ O) σ)) :
    OCc C f X ρ (.stat (.ref 646)) [.ref self, .str buf] [("posix", .bool false), ("punctuation_chars", .bool true)] (ov (dd :: self :: K) (fields lexKP [] :: .inst 722 dd :: O) σ) Q := by
  refine OCc.weak ?_
  refine OCc.def (bs := [.ref self, .str buf, .none, .bool false, .bool true]) ok (by rw [hK]; exact g646 _) (Binds.of fun s cargs ckw KI ra rk rkv => ?_) fun f' ok' hh => ?_
  · obtain ⟨_, _, rfl, r, r2⟩ := ra.two
    obtain ⟨v1, v2, e, r3, r4⟩ := rkv.two
    cases r3.boolI; cases r4.boolI
    obtain rfl := kw_zip rk e
    exact ⟨_, .cons r (.cons r2 (.cons .none (.cons .bool (.cons .bool .nil)))), fun S => by rw [hK]; exact b646 _ S _ _⟩
  clear ok
  have hA' := hh hA
  rw [hK] at ok' ⊢
  conv at ok' in (namesOf _) => whnf
  walk_at "in"
  walk_at "ww"
  rename_i x sd n1 pb n2 fs n3 pc n4 t1 n5 s1 _ t2 n6 s2 _
  have n6' : (t2 :: pc :: fs :: pb :: sd :: x :: dd :: self :: K).Nodup := n6.sublist (.cons₂ _ (.cons _ (List.Sublist.refl _)))
  have e := wc04_filter
  unfold wc04 pu04 at e
  rw [e]
  refine ⟨_, fun a o q => ?_, h pc fs pb sd x n4⟩
  have q1 := ov_drop (o := dkAO C (ofC ['(', ')', ';', '<', '>', '|', '&'])) n5 (by simp only [List.length_cons, List.length_append, List.length_nil]; omega) s1 a o q
  exact ov_drop (o := tbAO C (ofC ['(', ')', ';', '<', '>', '|', '&'])) n6 (by simp only [List.length_cons, List.length_append, List.length_nil]; omega) s2 a o q1
/-- shlex(text, posix=False, punctuation_chars=True) -/
theorem f_shlex (hK : C.K = KK C.w.params) (ok : f.Ok (d + 5) ns) (hA : f.A.handled = none) {buf : List Nat} (hn : K.Nodup) (hl : K.length = O.length) (hb : buf.length ≤ 1000000) {Q : V → AH → Prop}
    (h : ∀ self dd pc fs pb sd sio, (pc :: fs :: pb :: sd :: sio :: dd :: self :: K).Nodup → Q (.ref self) (ov (pc :: fs :: pb :: sd :: sio :: dd :: self :: K) (lexP (c04 false sio pb fs pc) dd D0 sd buf [] ++ O) σ)) :
    OC C f X ρ (.stat (.ref 722)) [.str buf] [("posix", .bool false), ("punctuation_chars", .bool true)] (ov K O σ) Q := OCc.oc <|
  OCc.ov_makeK (ks := lexKP) ok (mk722 hK) (isR.eq (mi722 hK)) (beq_iff_eq.mp (mf722 hK)) hn hl fun f' x dx ok' hh n => f_init hK ok' (hh hA) n hl hb fun pc fs pb sd sio n => ⟨rfl, h x dx pc fs pb sd sio n⟩

end
section
/-- what _law_pieces has so far -/
structure PS where
  text : List Nat
  toks : List (List Nat)
  deeds : List (Nat × Nat)
  sort : List Nat
  parted : Bool
noncomputable abbrev sWord : List Nat := ofC ['w', 'o', 'r', 'd']
noncomputable abbrev sRun : List Nat := ofC ['r', 'u', 'n']
noncomputable abbrev sMark : List Nat := ofC ['m', 'a', 'r', 'k']
noncomputable abbrev sAlone : List Nat := ofC ['a', 'l', 'o', 'n', 'e']
noncomputable abbrev wordsT (split : Bool) : List (List Nat) := match split with
  | false => [ofC ['a'], ofC ['7'], ofC ['_', 'x'], ofC ['-', 'f'], ofC ['a', '.', 'b'], ofC ['c', '=', 'd'], ofC ['a', '"', 'b'], ofC ['i', 't', '\'', 's']]
  | true => [ofC ['a', '+', 'b'], ofC ['+'], ofC ['\\'], ofC ['$', 'x'], ofC ['x', ':', 'y'], ofC ['\x0b'], ofC ['a', '"', 'b'], ofC ['i', 't', '\'', 's']]
noncomputable abbrev runsT : List (List Nat) := [ofC ['&'], ofC ['&', '&'], ofC ['('], ofC [')', ';'], ofC ['<', '>'], ofC ['|', '|'], ofC ['>', '&'], ofC [';', ';']]
noncomputable abbrev marksT : List (List Nat) := [ofC ['"', '"'], ofC ['\'', '\''], ofC ['"', 'a', ' ', 'b', '"'], ofC ['\'', '&', '&', '\''], ofC ['"', '#', '"'], ofC ['\'', '"', '\''], ofC ['"', '\n', '"'], ofC ['\'', '\\', '\'']]
noncomputable abbrev aloneT : List (List Nat) := [ofC ['+'], ofC ['@'], ofC [','], ofC [':'], ofC ['%'], ofC ['!'], ofC ['$'], ofC ['^']]
noncomputable abbrev gapsT : List (List Nat) := [ofC [], ofC ['#', '\'', '\n'], ofC [], ofC ['#', '"', 'a', '\n'], ofC [' '], ofC ['\n'], ofC ['\t', '\r'], ofC [' ', '#', '&', '\n']]
noncomputable abbrev sortsT (split : Bool) : List (List Nat) := [sWord, sWord, sRun, sRun, sMark, sMark, cond split sWord sAlone]
noncomputable def sortT (split : Bool) (p : Nat) : List Nat := (sortsT split).getD p []
noncomputable def tabT (split : Bool) (p : Nat) : List (List Nat) := ([wordsT split, wordsT split, runsT, runsT, marksT, marksT, aloneT] : List (List (List Nat))).getD p []
theorem wordsT_len : ∀ split, (wordsT split).length = 8 := by decide
noncomputable def joins (before sort : List Nat) : Bool := (decide (before = ofC ['w', 'o', 'r', 'd']) && [V.str (ofC ['w', 'o', 'r', 'd']), V.str (ofC ['m', 'a', 'r', 'k'])].any (isStrV sort)) || (decide (before = ofC ['r', 'u', 'n']) && decide (sort = ofC ['r', 'u', 'n']))
noncomputable def pstep (split : Bool) (S : PS) (p w g d : Nat) : PS :=
  cond (decide (p < 7))
    { text := S.text ++ cond (!S.parted && joins S.sort (sortT split p)) [32] [] ++ ((tabT split p).getD w [] ++ gapsT.getD g []), toks := S.toks ++ [(tabT split p).getD w []], deeds := S.deeds ++ [(d, w)], sort := sortT split p, parted := decide (4 ≤ g) }
    { S with deeds := S.deeds ++ [(d, w)] }
noncomputable def prun (split : Bool) (fs : List Nat) : Nat → PS
  | 0 => { text := ofC [], toks := [], deeds := [], sort := ofC ['n', 'o', 'n', 'e'], parted := true }
  | i + 1 => pstep split (prun split fs i) (fs.getD (4 * i) 0) (fs.getD (4 * i + 1) 0) (fs.getD (4 * i + 2) 0) (fs.getD (4 * i + 3) 0)
/-- the pieces of a row -/
noncomputable def pnum (fs : List Nat) : Nat := (fs.length + 3) / 4
noncomputable def pall (split : Bool) (fs : List Nat) : PS := prun split fs (pnum fs)
noncomputable def ptext (S : PS) : List Nat := S.text ++ cond (decide (S.toks.length % 2 = 1)) (ofC ['#', '&']) []
theorem getD_fig {fs : List Nat} (h : ∀ n ∈ fs, n < 8) (i : Nat) : fs.getD i 0 < 8 := by
  by_cases q : i < fs.length
  · rw [List.getD_eq_getElem?_getD, List.getElem?_eq_getElem q]
    exact h _ (List.getElem_mem q)
  · rw [List.getD_eq_getElem?_getD, List.getElem?_eq_none (by omega)]; decide
theorem tabT_len : ∀ split : Bool, ∀ p < 7, ∀ w < 8, ((tabT split p).getD w []).length ≤ 5 := by decide
theorem gapsT_len : ∀ w < 8, (gapsT.getD w []).length ≤ 5 := by decide
theorem prun_bound {split : Bool} {fs : List Nat} (h : ∀ n ∈ fs, n < 8) : ∀ i, (prun split fs i).text.length ≤ 11 * i ∧ (prun split fs i).toks.length ≤ i ∧ (prun split fs i).deeds.length = i
  | 0 => ⟨Nat.le_refl _, Nat.le_refl _, rfl⟩
  | i + 1 => by
    obtain ⟨h1, h2, h3⟩ := prun_bound (split := split) h i
    rw [prun]
    unfold pstep
    cases q : decide (fs.getD (4 * i) 0 < 7) with
    | true =>
      have q := of_decide_eq_true q
      have a1 := tabT_len split _ q _ (getD_fig h (4 * i + 1))
      have a2 := gapsT_len _ (getD_fig h (4 * i + 2))
      refine ⟨?_, ?_, ?_⟩
      · simp only [cond_true, List.length_append]
        have : (cond (!(prun split fs i).parted && joins (prun split fs i).sort (sortT split (fs.getD (4 * i) 0))) [32] []).length ≤ 1 := by
          cases (!(prun split fs i).parted && joins (prun split fs i).sort (sortT split (fs.getD (4 * i) 0))) <;> decide
        omega
      · simp only [cond_true, List.length_append, List.length_cons, List.length_nil]; omega
      · simp only [cond_true, List.length_append, List.length_cons, List.length_nil]; omega
    | false =>
      refine ⟨?_, ?_, ?_⟩
      · simp only [cond_false]; omega
      · simp only [cond_false]; omega
      · simp only [cond_false, List.length_append, List.length_cons, List.length_nil]; omega

end
section
/-- a lexer as the next call finds it -/
noncomputable abbrev nextD (E : Dy) : Dy := { E with tok := [], q := false, esc := [32] }
/-- what the next calls tell, one by one -/
noncomputable def Lexes (c : Cfg) (buf : List Nat) : List (List Nat) → Dy → Prop
  | [], _ => True
  | t :: ts, D => D.q = false ∧ D.esc = [32] ∧ ∃ n E, okD n D ∧ loop c buf n D = some E ∧ E.tok = t ∧ Lexes c buf ts (nextD E)
theorem Lexes.left {c : Cfg} {buf : List Nat} : ∀ {a b : List (List Nat)} {D : Dy}, Lexes c buf (a ++ b) D → Lexes c buf a D
  | [], _, _, _ => trivial
  | _ :: _, _, _, ⟨h1, h2, n, E, h3, h4, h5, h6⟩ => ⟨h1, h2, n, E, h3, h4, h5, h6.left⟩
theorem Lexes.less {c : Cfg} {buf : List Nat} {a : List (List Nat)} {D : Dy} {n m : Nat} (h : Lexes c buf (a ++ List.replicate n []) D) (hm : m ≤ n) : Lexes c buf (a ++ List.replicate m []) D := by
  have : List.replicate n ([] : List Nat) = List.replicate m [] ++ List.replicate (n - m) [] := by rw [List.replicate_append_replicate]; congr 1; omega
  rw [this, ← List.append_assoc] at h
  exact h.left

end
section
/-- what stands behind the line -/
noncomputable def dropLine : List Nat → List Nat
  | [] => []
  | x :: s => cond (x == 10) s (dropLine s)
theorem dropLine_pos : ∀ l : List Nat, dropLine l = match pos? 10 l with | some k => l.drop (k + 1) | none => []
  | [] => rfl
  | x :: s => by
    unfold dropLine pos?
    by_cases h : x = 10
    · subst h; simp
    · have h1 : (x == 10) = false := by simpa using h
      rw [h1, cond_false, dropLine_pos s]
      have h2 : ¬ (10 = x) := fun e => h e.symm
      simp only [h, h2, if_false, ite_false]
      cases q : pos? 10 s with
      | none => simp
      | some k => simp
theorem drop_lineOf (buf : List Nat) (pos : Nat) : buf.drop (lineOf buf pos) = dropLine (buf.drop pos) := by
  unfold lineOf
  split
  · unfold lineEnd
    rw [dropLine_pos]
    cases q : pos? 10 (buf.drop pos) with
    | none => simp
    | some k => dsimp only; rw [List.drop_drop]; congr 1
  · rename_i h
    rw [List.drop_of_length_le (by omega)]; rfl
noncomputable def wsL : List Nat := [32, 9, 13, 10]
noncomputable def quL : List Nat := [39, 34]
/-- one token, from a stream of signs -/
noncomputable def rd (sp : Bool) : Nat → List Nat → List Nat → List Nat → Option (List Nat × V × List Nat)
  | 0, _, _, _ => none
  | _ + 1, st, tok, [] => cond (decide (st = [39]) || decide (st = [34])) none (some (tok, .none, []))
  | n + 1, st, tok, x :: s =>
    cond (decide (st = [32]))
      (cond (wsL.contains x) (cond tok.isEmpty (rd sp n st tok s) none)
      (cond (x == 35) (rd sp n st tok (dropLine s))
      (cond (wc04.contains x) (rd sp n [97] [x] s)
      (cond (pu04.contains x) (rd sp n [99] [x] s)
      (cond (quL.contains x) (rd sp n [x] [x] s)
      (cond sp (rd sp n [97] [x] s) (some ([x], .str [32], s))))))))
    (cond (decide (st = [39]) || decide (st = [34])) (cond (decide ([x] = st)) (some (tok ++ [x], .str [32], s)) (rd sp n st (tok ++ [x]) s))
    (cond (wsL.contains x) (cond tok.isEmpty none (some (tok, .str [32], s)))
    (cond (x == 35) (rd sp n st tok (dropLine s))
    (cond (decide (st = [99])) (cond (pu04.contains x) (rd sp n st (tok ++ [x]) s) (some (tok, .str [32], x :: s)))
    (cond (wc04.contains x || (quL.contains x || (sp && !pu04.contains x))) (rd sp n st (tok ++ [x]) s)
      (cond tok.isEmpty none (some (tok, .str [32], x :: s))))))))
/-- the stream that a lexer has ahead of it -/
noncomputable def strm (buf : List Nat) (D : Dy) : List Nat := D.pc.toList ++ buf.drop D.pos
noncomputable def okSt (st : List Nat) : Prop := st = [32] ∨ st = [97] ∨ st = [99] ∨ st = [39] ∨ st = [34]
theorem next_nil {buf : List Nat} {D : Dy} (h : strm buf D = []) : nextC buf D = (none, D) := by
  unfold strm at h
  unfold nextC
  cases q : D.pc with
  | some ch => rw [q] at h; cases h
  | none =>
    rw [q] at h
    have : buf[D.pos]? = none := by
      have h : buf.drop D.pos = [] := h
      rw [List.drop_eq_nil_iff] at h
      exact List.getElem?_eq_none h
    rw [this]
theorem next_cons {buf : List Nat} {D : Dy} {x : Nat} {s : List Nat} (h : strm buf D = x :: s) : ∃ p, nextC buf D = (some x, { D with pc := none, pos := p }) ∧ buf.drop p = s := by
  unfold strm at h
  unfold nextC
  cases q : D.pc with
  | some ch =>
    rw [q] at h
    obtain ⟨h1, h2⟩ := List.cons.inj h
    subst h1
    exact ⟨D.pos, rfl, h2⟩
  | none =>
    rw [q] at h
    have h : buf.drop D.pos = x :: s := h
    have hx : buf[D.pos]? = some x := by
      have : (buf.drop D.pos)[0]? = some x := by rw [h]; rfl
      rw [List.getElem?_drop] at this; simpa using this
    rw [hx]
    refine ⟨D.pos + 1, ?_, ?_⟩
    · obtain ⟨st, tok, ln, pc, pos, qq, esc⟩ := D
      simp only at q; subst q; rfl
    · have : (buf.drop D.pos).drop 1 = s := by rw [h]; rfl
      rw [List.drop_drop] at this; exact this
theorem subS_q (st : List Nat) (h : okSt st) : subS st quL = (decide (st = [39]) || decide (st = [34])) := by
  rcases h with rfl | rfl | rfl | rfl | rfl <;> rw [subS_one] <;> decide
theorem subS_e (st : List Nat) (h : okSt st) : subS st [92] = false := by
  rcases h with rfl | rfl | rfl | rfl | rfl <;> rw [subS_one] <;> decide
theorem any_ac (st : List Nat) (h : okSt st) (h1 : decide (st = [32]) = false) (h2 : (decide (st = [39]) || decide (st = [34])) = false) : ([V.str (ofC ['a']), V.str (ofC ['c'])].any (isStrV st)) = true := by
  rcases h with rfl | rfl | rfl | rfl | rfl <;> revert h1 h2 <;> decide
theorem sim {sp : Bool} {sio pb fs pc : Addr} {buf : List Nat} : ∀ (n : Nat) (st tok s : List Nat) (D : Dy) (t : List Nat) (v : V) (s' : List Nat), okSt st → D.st = .str st → D.tok = tok → strm buf D = s → D.esc = [32] →
    rd sp n st tok s = some (t, v, s') → ∃ E, loop (c04 sp sio pb fs pc) buf n D = some E ∧ E.tok = t ∧ E.st = v ∧ E.esc = [32] ∧ strm buf E = s' := by
  intro n
  induction n with
  | zero => intro st tok s D t v s' _ _ _ _ _ h; cases h
  | succ n ih =>
    intro st tok s D t v s' hst e1 e2 e3 e4 h
    unfold loop turn
    cases s with
    | nil =>
      rw [next_nil e3]
      dsimp only
      unfold turnE
      rw [e1]
      unfold rd at h
      have q1 := subS_q st hst
      have q2 := subS_e st hst
      show ∃ E, (match (cond (decide (st = ofC [' '])) (Out.brk { D with st := .none }) (cond (subS st quL) Out.bad (cond (subS st [92]) Out.bad (cond ([V.str (ofC ['a']), V.str (ofC ['c'])].any (isStrV st)) (Out.brk { D with st := .none }) Out.bad)))) with | .go D' => _ | .brk D' => some D' | .bad => none) = some E ∧ _
      rw [q1, q2]
      cases hq : (decide (st = [39]) || decide (st = [34])) with
      | true => rw [hq] at h; cases h
      | false =>
        rw [hq] at h
        obtain ⟨h1, h2⟩ := Prod.mk.inj (Option.some.inj h)
        obtain ⟨h2, h3⟩ := Prod.mk.inj h2
        subst h1 h2 h3
        cases hs : decide (st = ofC [' ']) with
        | true => exact ⟨_, rfl, e2, rfl, e4, e3⟩
        | false =>
          rw [any_ac st hst hs hq]
          exact ⟨_, rfl, e2, rfl, e4, e3⟩
    | cons x s =>
      obtain ⟨p, hp, hd⟩ := next_cons e3
      rw [hp]
      dsimp only
      generalize (cond (decide ([x] = ofC ['\n'])) (D.ln + 1) D.ln) = ln
      have q1 := subS_q st hst
      have q2 := subS_e st hst
      unfold turnC
      dsimp only
      rw [e1, e4, e2]
      unfold rd at h
      simp only [subS_one, Bool.false_and, cond_false]
      have oa : ofC ['a'] = [97] := rfl
      have oc : ofC ['c'] = [99] := rfl
      have os : ofC [' '] = [32] := rfl
      have hw : [32, 9, 13, 10].contains x = wsL.contains x := rfl
      have hc : [35].contains x = (x == 35) := by
        show (match x == 35 with | true => true | false => false) = _
        cases (x == 35) <;> rfl
      have hqq : [39, 34].contains x = quL.contains x := rfl
      have q1' : subS st [39, 34] = (decide (st = [39]) || decide (st = [34])) := q1
      have m0 : ∀ {st' : V} {tk : List Nat} {l : Int} {qq : Bool}, strm buf { st := st', tok := tk, ln := l, pc := none, pos := p, q := qq, esc := [32] } = s := hd
      have m1 : ∀ {st' : V} {tk : List Nat} {l : Int} {qq : Bool}, strm buf { st := st', tok := tk, ln := l, pc := none, pos := lineOf buf p, q := qq, esc := [32] } = dropLine s := by
        intros; show buf.drop (lineOf buf p) = _; rw [drop_lineOf, hd]
      have m2 : ∀ {st' : V} {tk : List Nat} {l : Int} {qq : Bool}, strm buf { st := st', tok := tk, ln := l, pc := some x, pos := p, q := qq, esc := [32] } = x :: s := by
        intros; show x :: buf.drop p = _; rw [hd]
      simp only [oa, oc, os, hw, hc, hqq, q1', q2, tell, cond_false]
      cases hs : decide (st = [32]) with
      | true =>
        rw [hs] at h
        have hst2 : st = [32] := of_decide_eq_true hs
        simp only [cond_true] at h ⊢
        cases c1 : wsL.contains x with
        | true =>
          rw [c1] at h
          simp only [cond_true] at h ⊢
          cases c2 : tok.isEmpty with
          | true =>
            rw [c2] at h
            simp only [cond_true] at h ⊢
            exact ih st tok s _ t v s' hst rfl rfl m0 rfl h
          | false => rw [c2] at h; cases h
        | false =>
          rw [c1] at h
          simp only [cond_false] at h ⊢
          cases c2 : (x == 35) with
          | true =>
            rw [c2] at h
            simp only [cond_true] at h ⊢
            exact ih st tok _ _ t v s' hst rfl rfl m1 rfl h
          | false =>
            rw [c2] at h
            simp only [cond_false] at h ⊢
            cases c3 : wc04.contains x with
            | true =>
              rw [c3] at h
              simp only [cond_true] at h ⊢
              exact ih _ _ s _ t v s' (.inr (.inl rfl)) rfl rfl m0 rfl h
            | false =>
              rw [c3] at h
              simp only [cond_false] at h ⊢
              cases c4 : pu04.contains x with
              | true =>
                rw [c4] at h
                simp only [cond_true] at h ⊢
                exact ih _ _ s _ t v s' (.inr (.inr (.inl rfl))) rfl rfl m0 rfl h
              | false =>
                rw [c4] at h
                simp only [cond_false] at h ⊢
                cases c5 : quL.contains x with
                | true =>
                  rw [c5] at h
                  simp only [cond_true] at h ⊢
                  refine ih _ _ s _ t v s' ?_ rfl rfl m0 rfl h
                  have : x = 39 ∨ x = 34 := by unfold quL at c5; simpa using c5
                  rcases this with rfl | rfl
                  · exact .inr (.inr (.inr (.inl rfl)))
                  · exact .inr (.inr (.inr (.inr rfl)))
                | false =>
                  rw [c5] at h
                  simp only [cond_false] at h ⊢
                  cases sp with
                  | true =>
                    simp only [cond_true] at h ⊢
                    exact ih _ _ s _ t v s' (.inr (.inl rfl)) rfl rfl m0 rfl h
                  | false =>
                    simp only [cond_false, Option.some.injEq, Prod.mk.injEq] at h
                    obtain ⟨rfl, rfl, rfl⟩ := h
                    exact ⟨_, rfl, rfl, by rw [hst2], rfl, m0⟩
      | false =>
        rw [hs] at h
        simp only [cond_false] at h ⊢
        cases hq : (decide (st = [39]) || decide (st = [34])) with
        | true =>
          rw [hq] at h
          simp only [cond_true] at h ⊢
          cases c1 : decide ([x] = st) with
          | true =>
            rw [c1] at h
            simp only [cond_true, Option.some.injEq, Prod.mk.injEq] at h
            obtain ⟨rfl, rfl, rfl⟩ := h
            exact ⟨_, rfl, rfl, rfl, rfl, m0⟩
          | false =>
            rw [c1] at h
            simp only [cond_false] at h ⊢
            exact ih st _ s _ t v s' hst rfl rfl m0 rfl h
        | false =>
          rw [hq] at h
          rw [show [V.str [97], V.str [99]].any (isStrV st) = true from any_ac st hst hs hq]
          simp only [cond_false, cond_true] at h ⊢
          cases c1 : wsL.contains x with
          | true =>
            rw [c1] at h
            simp only [cond_true] at h ⊢
            cases c2 : tok.isEmpty with
            | true => rw [c2] at h; cases h
            | false =>
              rw [c2] at h
              simp only [cond_false, Option.some.injEq, Prod.mk.injEq] at h
              obtain ⟨rfl, rfl, rfl⟩ := h
              exact ⟨_, rfl, rfl, rfl, rfl, m0⟩
          | false =>
            rw [c1] at h
            simp only [cond_false] at h ⊢
            cases c2 : (x == 35) with
            | true =>
              rw [c2] at h
              simp only [cond_true] at h ⊢
              exact ih st tok _ _ t v s' hst rfl rfl m1 rfl h
            | false =>
              rw [c2] at h
              simp only [cond_false] at h ⊢
              cases c3 : decide (st = [99]) with
              | true =>
                rw [c3] at h
                simp only [cond_true] at h ⊢
                cases c4 : pu04.contains x with
                | true =>
                  rw [c4] at h
                  simp only [cond_true] at h ⊢
                  exact ih st _ s _ t v s' hst rfl rfl m0 rfl h
                | false =>
                  rw [c4] at h
                  simp only [cond_false, Option.some.injEq, Prod.mk.injEq] at h
                  obtain ⟨rfl, rfl, rfl⟩ := h
                  exact ⟨_, rfl, rfl, rfl, rfl, m2⟩
              | false =>
                rw [c3] at h
                simp only [cond_false] at h ⊢
                cases c4 : (wc04.contains x || (quL.contains x || (sp && !pu04.contains x))) with
                | true =>
                  rw [c4] at h
                  simp only [cond_true] at h ⊢
                  exact ih st _ s _ t v s' hst rfl rfl m0 rfl h
                | false =>
                  rw [c4] at h
                  simp only [cond_false] at h ⊢
                  cases c5 : tok.isEmpty with
                  | true => rw [c5] at h; cases h
                  | false =>
                    rw [c5] at h
                    simp only [cond_false, Option.some.injEq, Prod.mk.injEq] at h
                    obtain ⟨rfl, rfl, rfl⟩ := h
                    exact ⟨_, rfl, rfl, rfl, rfl, m2⟩

end
section
theorem cm {α : Type} {b : Bool} {x y x' y' : Option α} {r : α} (h1 : x = some r → x' = some r) (h2 : y = some r → y' = some r) : cond b x y = some r → cond b x' y' = some r := by
  cases b
  · exact h2
  · exact h1
theorem ce {α : Type} {b : Bool} {x y : Option α} {r : α} {P : Prop} (h1 : x = some r → P) (h2 : y = some r → P) : cond b x y = some r → P := by
  cases b
  · exact h2
  · exact h1
theorem no {α : Type} {r : α} {P : Prop} : none = some r → P := fun e => by cases e
theorem dropLine_le : ∀ l : List Nat, (dropLine l).length ≤ l.length
  | [] => Nat.le_refl _
  | x :: s => by
    unfold dropLine
    cases (x == 10)
    · simp only [cond_false, List.length_cons]; have := dropLine_le s; omega
    · simp only [cond_true, List.length_cons]; omega
theorem rd_fuel {sp : Bool} : ∀ (n : Nat) (st tok s : List Nat) (r : List Nat × V × List Nat), rd sp n st tok s = some r → ∀ m, s.length < m → rd sp m st tok s = some r := by
  intro n
  induction n with
  | zero => intro st tok s r h; cases h
  | succ n ih =>
    intro st tok s r h m hm
    cases m with
    | zero => omega
    | succ m =>
      cases s with
      | nil => exact h
      | cons x s =>
        have hk : ∀ st tok, rd sp n st tok s = some r → rd sp m st tok s = some r := fun st tok h => ih st tok s r h m (by simp at hm; omega)
        have hd : ∀ st tok, rd sp n st tok (dropLine s) = some r → rd sp m st tok (dropLine s) = some r := fun st tok h => ih st tok _ r h m (by have := dropLine_le s; simp at hm; omega)
        unfold rd at h ⊢
        revert h
        exact cm (cm (cm (hk _ _) id) (cm (hd _ _) (cm (hk _ _) (cm (hk _ _) (cm (hk _ _) (cm (hk _ _) id))))))
          (cm (cm id (hk _ _)) (cm (cm id id) (cm (hd _ _) (cm (cm (hk _ _) id) (cm (hk _ _) (cm id id))))))
theorem rd_len {sp : Bool} : ∀ (n : Nat) (st tok s : List Nat) (t : List Nat) (v : V) (s' : List Nat), rd sp n st tok s = some (t, v, s') → s'.length ≤ s.length := by
  intro n
  induction n with
  | zero => intro st tok s t v s' h; cases h
  | succ n ih =>
    intro st tok s t v s' h
    cases s with
    | nil =>
      unfold rd at h
      revert h
      refine ce no fun e => ?_
      cases e; exact Nat.le_refl _
    | cons x s =>
      have hk : ∀ st tok, rd sp n st tok s = some (t, v, s') → s'.length ≤ (x :: s).length := fun st tok h => by have := ih st tok s t v s' h; simp; omega
      have hd : ∀ st tok, rd sp n st tok (dropLine s) = some (t, v, s') → s'.length ≤ (x :: s).length := fun st tok h => by have := ih st tok _ t v s' h; have := dropLine_le s; simp; omega
      have h0 : ∀ {a : List Nat} {b : V}, some (a, b, s) = some (t, v, s') → s'.length ≤ (x :: s).length := fun e => by cases e; simp
      have h1 : ∀ {a : List Nat} {b : V}, some (a, b, x :: s) = some (t, v, s') → s'.length ≤ (x :: s).length := fun e => by cases e; exact Nat.le_refl _
      unfold rd at h
      revert h
      exact ce (ce (ce (hk _ _) no) (ce (hd _ _) (ce (hk _ _) (ce (hk _ _) (ce (hk _ _) (ce (hk _ _) h0))))))
        (ce (ce h0 (hk _ _)) (ce (ce no h0) (ce (hd _ _) (ce (ce (hk _ _) h1) (ce (hk _ _) (ce no h1))))))
/-- the tokens that come from a stream -/
noncomputable def LexR (sp : Bool) : V → List Nat → List (List Nat) → Prop
  | _, _, [] => True
  | v, s, t :: ts => (v = .none ∧ s = [] ∧ t = [] ∧ LexR sp .none [] ts) ∨ (v = .str [32] ∧ ∃ n v' s', rd sp n [32] [] s = some (t, v', s') ∧ LexR sp v' s' ts)
theorem lexes_of {sp : Bool} {sio pb fs pc : Addr} {buf : List Nat} : ∀ (toks : List (List Nat)) (D : Dy) (v : V) (s : List Nat), LexR sp v s toks → D.st = v → D.tok = [] → strm buf D = s → D.q = false → D.esc = [32] → s.length ≤ 5000 → Lexes (c04 sp sio pb fs pc) buf toks D := by
  intro toks
  induction toks with
  | nil => intros; trivial
  | cons t ts ih =>
    intro D v s h e1 e2 e3 e4 e5 hl
    rcases h with ⟨rfl, rfl, rfl, h⟩ | ⟨rfl, n, v', s', hr, h⟩
    · refine ⟨e4, e5, 1, { D with tok := [] }, ⟨by rw [e2]; decide, by rw [e5]; decide, by rw [e1]; trivial⟩, ?_, rfl, ?_⟩
      · unfold loop turn
        rw [next_nil e3]
        dsimp only
        unfold turnE
        rw [e1]
        rfl
      · exact ih _ .none [] h e1 rfl e3 rfl rfl (by decide)
    · have hr2 := rd_fuel n _ _ _ _ hr (s.length + 1) (Nat.lt_succ_self _)
      obtain ⟨E, h1, h2, h3, h4, h5⟩ := sim (sio := sio) (pb := pb) (fs := fs) (pc := pc) (s.length + 1) [32] [] s D t v' s' (.inl rfl) e1 e2 e3 e5 hr2
      refine ⟨e4, e5, _, E, ⟨by rw [e2]; simp; omega, by rw [e5]; decide, by rw [e1]; decide⟩, h1, h2, ?_⟩
      exact ih _ v' s' h h3 rfl h5 rfl rfl (Nat.le_trans (rd_len _ _ _ _ _ _ _ hr) hl)

end
section
theorem mem8 {P : List Nat → Prop} {a b c d e f g h : List Nat} (h1 : P a) (h2 : P b) (h3 : P c) (h4 : P d) (h5 : P e) (h6 : P f) (h7 : P g) (h8 : P h) : ∀ w ∈ [a, b, c, d, e, f, g, h], P w := by
  intro w hw
  simp only [List.mem_cons, List.not_mem_nil, or_false] at hw
  rcases hw with rfl | rfl | rfl | rfl | rfl | rfl | rfl | rfl <;> assumption
noncomputable abbrev OpenAt (sp : Bool) (st w : List Nat) : Prop := ∀ n s, rd sp (n + w.length) [32] [] (w ++ s) = rd sp n st w s
noncomputable abbrev Closed (sp : Bool) (w : List Nat) : Prop := ∀ n s, rd sp (n + w.length) [32] [] (w ++ s) = some (w, .str [32], s)
theorem words_open (sp : Bool) : ∀ w ∈ wordsT sp, OpenAt sp [97] w := by
  cases sp
  · refine mem8 ?_ ?_ ?_ ?_ ?_ ?_ ?_ ?_ <;> intro n s <;> rfl
  · refine mem8 ?_ ?_ ?_ ?_ ?_ ?_ ?_ ?_ <;> intro n s <;> rfl
theorem runs_open (sp : Bool) : ∀ w ∈ runsT, OpenAt sp [99] w := by
  cases sp
  · refine mem8 ?_ ?_ ?_ ?_ ?_ ?_ ?_ ?_ <;> intro n s <;> rfl
  · refine mem8 ?_ ?_ ?_ ?_ ?_ ?_ ?_ ?_ <;> intro n s <;> rfl
theorem marks_closed (sp : Bool) : ∀ w ∈ marksT, Closed sp w := by
  cases sp
  · refine mem8 ?_ ?_ ?_ ?_ ?_ ?_ ?_ ?_ <;> intro n s <;> rfl
  · refine mem8 ?_ ?_ ?_ ?_ ?_ ?_ ?_ ?_ <;> intro n s <;> rfl
theorem alone_closed : ∀ w ∈ aloneT, Closed false w := by
  refine mem8 ?_ ?_ ?_ ?_ ?_ ?_ ?_ ?_ <;> intro n s <;> rfl
theorem alone_open : ∀ w ∈ aloneT, OpenAt true [97] w := by
  refine mem8 ?_ ?_ ?_ ?_ ?_ ?_ ?_ ?_ <;> intro n s <;> rfl
/-- a sign that ends what is open, and stays -/
noncomputable abbrev Ends (sp : Bool) (st w : List Nat) : Prop := ∀ y ys s, rd sp 1 st (y :: ys) (w ++ s) = some (y :: ys, .str [32], w ++ s)
theorem runs_end (sp : Bool) : ∀ w ∈ runsT, Ends sp [97] w := by
  cases sp
  · refine mem8 ?_ ?_ ?_ ?_ ?_ ?_ ?_ ?_ <;> intro y ys s <;> rfl
  · refine mem8 ?_ ?_ ?_ ?_ ?_ ?_ ?_ ?_ <;> intro y ys s <;> rfl
theorem alone_end : ∀ w ∈ aloneT, Ends false [97] w := by
  refine mem8 ?_ ?_ ?_ ?_ ?_ ?_ ?_ ?_ <;> intro y ys s <;> rfl
theorem words_end (sp : Bool) : ∀ w ∈ wordsT sp, Ends sp [99] w := by
  cases sp
  · refine mem8 ?_ ?_ ?_ ?_ ?_ ?_ ?_ ?_ <;> intro y ys s <;> rfl
  · refine mem8 ?_ ?_ ?_ ?_ ?_ ?_ ?_ ?_ <;> intro y ys s <;> rfl
theorem marks_end (sp : Bool) : ∀ w ∈ marksT, Ends sp [99] w := by
  cases sp
  · refine mem8 ?_ ?_ ?_ ?_ ?_ ?_ ?_ ?_ <;> intro y ys s <;> rfl
  · refine mem8 ?_ ?_ ?_ ?_ ?_ ?_ ?_ ?_ <;> intro y ys s <;> rfl
theorem alone_end' (sp : Bool) : ∀ w ∈ aloneT, Ends sp [99] w := by
  cases sp
  · refine mem8 ?_ ?_ ?_ ?_ ?_ ?_ ?_ ?_ <;> intro y ys s <;> rfl
  · refine mem8 ?_ ?_ ?_ ?_ ?_ ?_ ?_ ?_ <;> intro y ys s <;> rfl
/-- the gaps are skipped -/
noncomputable abbrev Skips (sp : Bool) (g : List Nat) : Prop := ∃ k, ∀ n s, rd sp (n + k) [32] [] (g ++ s) = rd sp n [32] [] s
theorem gaps_skip (sp : Bool) : ∀ g ∈ gapsT, Skips sp g := by
  cases sp
  · exact mem8 ⟨0, fun _ _ => rfl⟩ ⟨1, fun _ _ => rfl⟩ ⟨0, fun _ _ => rfl⟩ ⟨1, fun _ _ => rfl⟩ ⟨1, fun _ _ => rfl⟩ ⟨1, fun _ _ => rfl⟩ ⟨2, fun _ _ => rfl⟩ ⟨2, fun _ _ => rfl⟩
  · exact mem8 ⟨0, fun _ _ => rfl⟩ ⟨1, fun _ _ => rfl⟩ ⟨0, fun _ _ => rfl⟩ ⟨1, fun _ _ => rfl⟩ ⟨1, fun _ _ => rfl⟩ ⟨1, fun _ _ => rfl⟩ ⟨2, fun _ _ => rfl⟩ ⟨2, fun _ _ => rfl⟩
/-- a gap that parts: it ends what is open -/
theorem gap_parts (sp : Bool) {gp : Nat} (h : 4 ≤ gp) (h8 : gp < 8) {st : List Nat} (hst : st = [97] ∨ st = [99]) : ∃ g', Skips sp g' ∧ ∀ y ys s, rd sp 1 st (y :: ys) (gapsT.getD gp [] ++ s) = some (y :: ys, .str [32], g' ++ s) := by
  have : gp = 4 ∨ gp = 5 ∨ gp = 6 ∨ gp = 7 := by omega
  rcases this with rfl | rfl | rfl | rfl
  · exact ⟨[], ⟨0, fun _ _ => rfl⟩, by rcases hst with rfl | rfl <;> intro y ys s <;> rfl⟩
  · exact ⟨[], ⟨0, fun _ _ => rfl⟩, by rcases hst with rfl | rfl <;> intro y ys s <;> rfl⟩
  · exact ⟨[13], ⟨1, fun _ _ => rfl⟩, by rcases hst with rfl | rfl <;> intro y ys s <;> rfl⟩
  · exact ⟨[35, 38, 10], ⟨1, fun _ _ => rfl⟩, by rcases hst with rfl | rfl <;> intro y ys s <;> rfl⟩
/-- a gap that does not part: what is open stays open -/
theorem gap_stays (sp : Bool) {gp : Nat} (h : ¬ 4 ≤ gp) {st : List Nat} (hst : st = [97] ∨ st = [99]) : ∃ k, ∀ n tok s, rd sp (n + k) st tok (gapsT.getD gp [] ++ s) = rd sp n st tok s := by
  have : gp = 0 ∨ gp = 1 ∨ gp = 2 ∨ gp = 3 := by omega
  rcases this with rfl | rfl | rfl | rfl
  · exact ⟨0, by intro n tok s; rfl⟩
  · exact ⟨1, by rcases hst with rfl | rfl <;> intro n tok s <;> rfl⟩
  · exact ⟨0, by intro n tok s; rfl⟩
  · exact ⟨1, by rcases hst with rfl | rfl <;> intro n tok s <;> rfl⟩

end
section
/-- what comes of the pieces from here on: text and tokens -/
noncomputable def fut (sp : Bool) (fs : List Nat) : Nat → Nat → List Nat → Bool → List Nat × List (List Nat)
  | 0, _, _, _ => ([], [])
  | m + 1, i, srt, pt =>
    cond (decide (fs.getD (4 * i) 0 < 7))
      (cond (!pt && joins srt (sortT sp (fs.getD (4 * i) 0))) [32] [] ++ ((tabT sp (fs.getD (4 * i) 0)).getD (fs.getD (4 * i + 1) 0) [] ++ (gapsT.getD (fs.getD (4 * i + 2) 0) [] ++ (fut sp fs m (i + 1) (sortT sp (fs.getD (4 * i) 0)) (decide (4 ≤ fs.getD (4 * i + 2) 0))).1)),
        (tabT sp (fs.getD (4 * i) 0)).getD (fs.getD (4 * i + 1) 0) [] :: (fut sp fs m (i + 1) (sortT sp (fs.getD (4 * i) 0)) (decide (4 ≤ fs.getD (4 * i + 2) 0))).2)
      (fut sp fs m (i + 1) srt pt)
theorem fut_run {sp : Bool} {fs : List Nat} : ∀ (m i : Nat), (prun sp fs (i + m)).text = (prun sp fs i).text ++ (fut sp fs m i (prun sp fs i).sort (prun sp fs i).parted).1 ∧ (prun sp fs (i + m)).toks = (prun sp fs i).toks ++ (fut sp fs m i (prun sp fs i).sort (prun sp fs i).parted).2
  | 0, i => by simp [fut]
  | m + 1, i => by
    obtain ⟨h1, h2⟩ := fut_run (sp := sp) (fs := fs) m (i + 1)
    have e : i + (m + 1) = i + 1 + m := by omega
    rw [e, h1, h2]
    rw [fut]
    have e2 : prun sp fs (i + 1) = pstep sp (prun sp fs i) (fs.getD (4 * i) 0) (fs.getD (4 * i + 1) 0) (fs.getD (4 * i + 2) 0) (fs.getD (4 * i + 3) 0) := rfl
    rw [e2]
    unfold pstep
    cases q : decide (fs.getD (4 * i) 0 < 7) with
    | true => simp only [cond_true, List.append_assoc, List.cons_append, List.nil_append]; exact ⟨trivial, trivial⟩
    | false => exact ⟨rfl, rfl⟩
/-- what is open from before -/
noncomputable def LexP (sp : Bool) : Option (List Nat × List Nat) → List Nat → List (List Nat) → Prop
  | none, s, ts => LexR sp (.str [32]) s ts
  | some (st, tok), s, ts => ∃ n v s', rd sp n st tok s = some (tok, v, s') ∧ LexR sp v s' ts
noncomputable def Cmp (srt : List Nat) (pt : Bool) : Option (List Nat × List Nat) → Prop
  | none => True
  | some (st, tok) => pt = false ∧ tok ≠ [] ∧ ((st = [97] ∧ srt = sWord) ∨ (st = [99] ∧ srt = sRun))
theorem LexR.skip {sp : Bool} {g s : List Nat} {ts : List (List Nat)} (h : Skips sp g) (l : LexR sp (.str [32]) s ts) : LexR sp (.str [32]) (g ++ s) ts := by
  cases ts with
  | nil => trivial
  | cons t ts =>
    rcases l with ⟨e, _⟩ | ⟨_, n, v', s', h1, h2⟩
    · cases e
    · obtain ⟨k, hk⟩ := h
      exact .inr ⟨rfl, n + k, v', s', (hk n s).trans h1, h2⟩
theorem LexR.none_reps {sp : Bool} : ∀ k, LexR sp .none [] (List.replicate k [])
  | 0 => trivial
  | k + 1 => .inl ⟨rfl, rfl, rfl, LexR.none_reps k⟩
theorem lex_end {sp : Bool} {tail : List Nat} (ht : tail = [] ∨ tail = [35, 38]) (k : Nat) {srt : List Nat} {pt : Bool} {pnd : Option (List Nat × List Nat)} (hc : Cmp srt pt pnd) : LexP sp pnd tail (List.replicate k []) := by
  cases pnd with
  | none =>
    cases k with
    | zero => trivial
    | succ k =>
      refine .inr ⟨rfl, 2, .none, [], ?_, LexR.none_reps k⟩
      rcases ht with rfl | rfl <;> cases sp <;> rfl
  | some p =>
    obtain ⟨st, tok⟩ := p
    obtain ⟨_, _, h⟩ := hc
    refine ⟨2, .none, [], ?_, LexR.none_reps k⟩
    rcases ht with rfl | rfl <;> rcases h with ⟨rfl, _⟩ | ⟨rfl, _⟩ <;> cases sp <;> rfl
theorem getD_mem8 {l : List (List Nat)} {w : Nat} (h : w < l.length) : l.getD w [] ∈ l := by
  rw [List.getD_eq_getElem?_getD, List.getElem?_eq_getElem h]; exact List.getElem_mem h
theorem tok_ne (sp : Bool) : ∀ p < 7, ∀ w < 8, (tabT sp p).getD w [] ≠ [] := by cases sp <;> decide
theorem tab_word (sp : Bool) {p : Nat} (hp : p = 0 ∨ p = 1) : tabT sp p = wordsT sp ∧ sortT sp p = sWord := by rcases hp with rfl | rfl <;> exact ⟨rfl, rfl⟩
theorem tab_run (sp : Bool) {p : Nat} (hp : p = 2 ∨ p = 3) : tabT sp p = runsT ∧ sortT sp p = sRun := by rcases hp with rfl | rfl <;> exact ⟨rfl, rfl⟩
theorem tab_mark (sp : Bool) {p : Nat} (hp : p = 4 ∨ p = 5) : tabT sp p = marksT ∧ sortT sp p = sMark := by rcases hp with rfl | rfl <;> exact ⟨rfl, rfl⟩
theorem lex_tok {sp : Bool} {p w gp : Nat} {s : List Nat} {ts : List (List Nat)} (hp : p < 7) (hw : w < 8) (hg : gp < 8)
    (ih : ∀ pnd, Cmp (sortT sp p) (decide (4 ≤ gp)) pnd → LexP sp pnd s ts) : LexR sp (.str [32]) ((tabT sp p).getD w [] ++ (gapsT.getD gp [] ++ s)) ((tabT sp p).getD w [] :: ts) := by
  have hgm : gapsT.getD gp [] ∈ gapsT := getD_mem8 (show gp < 8 from hg)
  have hne := tok_ne sp p hp w hw
  have open' : ∀ st, (st = [97] ∨ st = [99]) → ((st = [97] ∧ sortT sp p = sWord) ∨ (st = [99] ∧ sortT sp p = sRun)) → OpenAt sp st ((tabT sp p).getD w []) → LexR sp (.str [32]) ((tabT sp p).getD w [] ++ (gapsT.getD gp [] ++ s)) ((tabT sp p).getD w [] :: ts) := by
    intro st hst hso ho
    generalize (tabT sp p).getD w [] = t at hne ho
    cases t with
    | nil => exact absurd rfl hne
    | cons y ys =>
      by_cases h4 : 4 ≤ gp
      · obtain ⟨g', hsk, hpart⟩ := gap_parts sp h4 hg hst
        exact .inr ⟨rfl, _, _, _, (ho 1 _).trans (hpart y ys s), (show LexR sp (.str [32]) s ts from ih none trivial).skip hsk⟩
      · obtain ⟨k, hk⟩ := gap_stays sp h4 hst
        obtain ⟨n, v, s', h1, h2⟩ := ih (some (st, y :: ys)) ⟨decide_eq_false h4, by simp, hso⟩
        exact .inr ⟨rfl, _, _, _, (ho (n + k) _).trans ((hk n _ s).trans h1), h2⟩
  have closed' : Closed sp ((tabT sp p).getD w []) → LexR sp (.str [32]) ((tabT sp p).getD w [] ++ (gapsT.getD gp [] ++ s)) ((tabT sp p).getD w [] :: ts) := fun hc =>
    .inr ⟨rfl, _, _, _, hc 0 _, (show LexR sp (.str [32]) s ts from ih none trivial).skip (gaps_skip sp _ hgm)⟩
  have hp' : (p = 0 ∨ p = 1) ∨ (p = 2 ∨ p = 3) ∨ (p = 4 ∨ p = 5) ∨ p = 6 := by omega
  rcases hp' with h | h | h | rfl
  · obtain ⟨h1, h2⟩ := tab_word sp h
    refine open' [97] (.inl rfl) (.inl ⟨rfl, h2⟩) ?_
    rw [h1]; exact words_open sp _ (getD_mem8 (by rw [wordsT_len]; exact hw))
  · obtain ⟨h1, h2⟩ := tab_run sp h
    refine open' [99] (.inr rfl) (.inr ⟨rfl, h2⟩) ?_
    rw [h1]; exact runs_open sp _ (getD_mem8 (show w < 8 from hw))
  · obtain ⟨h1, h2⟩ := tab_mark sp h
    refine closed' ?_
    rw [h1]; exact marks_closed sp _ (getD_mem8 (show w < 8 from hw))
  · cases sp with
    | true =>
      refine open' [97] (.inl rfl) (.inl ⟨rfl, rfl⟩) ?_
      exact alone_open _ (getD_mem8 (l := aloneT) (show w < 8 from hw))
    | false => exact closed' (alone_closed _ (getD_mem8 (l := aloneT) (show w < 8 from hw)))
/-- a piece behind what is open -/
theorem lex_join {sp : Bool} {p w : Nat} {X : List Nat} {ts : List (List Nat)} {srt : List Nat} {pt : Bool} {pnd : Option (List Nat × List Nat)} (hp : p < 7) (hw : w < 8) (hc : Cmp srt pt pnd)
    (h : LexR sp (.str [32]) ((tabT sp p).getD w [] ++ X) ts) : LexP sp pnd (cond (!pt && joins srt (sortT sp p)) [32] [] ++ ((tabT sp p).getD w [] ++ X)) ts := by
  cases pnd with
  | none =>
    show LexR sp (.str [32]) _ ts
    cases (!pt && joins srt (sortT sp p))
    · exact h
    · exact h.skip (g := [32]) ⟨1, by cases sp <;> exact fun _ _ => rfl⟩
  | some q =>
    obtain ⟨st, tok⟩ := q
    obtain ⟨rfl, hne, hs⟩ := hc
    cases tok with
    | nil => exact absurd rfl hne
    | cons y ys =>
      cases hj : (!false && joins srt (sortT sp p)) with
      | true =>
        refine ⟨1, _, _, ?_, h⟩
        rcases hs with ⟨rfl, _⟩ | ⟨rfl, _⟩ <;> cases sp <;> rfl
      | false =>
        have fin : Ends sp st ((tabT sp p).getD w []) → LexP sp (some (st, y :: ys)) (cond false [32] [] ++ ((tabT sp p).getD w [] ++ X)) ts := fun he => ⟨1, _, _, he y ys X, h⟩
        refine fin ?_
        have hp' : (p = 0 ∨ p = 1) ∨ (p = 2 ∨ p = 3) ∨ (p = 4 ∨ p = 5) ∨ p = 6 := by omega
        rcases hs with ⟨rfl, rfl⟩ | ⟨rfl, rfl⟩
        · rcases hp' with q | q | q | rfl
          · rw [(tab_word sp q).2] at hj; exact absurd hj (by decide)
          · rw [(tab_run sp q).1]; exact runs_end sp _ (getD_mem8 (show w < 8 from hw))
          · rw [(tab_mark sp q).2] at hj; exact absurd hj (by decide)
          · cases sp with
            | true => exact absurd hj (by decide)
            | false => exact alone_end _ (getD_mem8 (l := aloneT) (show w < 8 from hw))
        · rcases hp' with q | q | q | rfl
          · rw [(tab_word sp q).1]; exact words_end sp _ (getD_mem8 (by rw [wordsT_len]; exact hw))
          · rw [(tab_run sp q).2] at hj; exact absurd hj (by decide)
          · rw [(tab_mark sp q).1]; exact marks_end sp _ (getD_mem8 (show w < 8 from hw))
          · exact alone_end' sp _ (getD_mem8 (l := aloneT) (show w < 8 from hw))
theorem lex_fut {sp : Bool} {fs : List Nat} (hf : ∀ n ∈ fs, n < 8) {tail : List Nat} (ht : tail = [] ∨ tail = [35, 38]) (k : Nat) : ∀ (m i : Nat) (srt : List Nat) (pt : Bool) (pnd : Option (List Nat × List Nat)), Cmp srt pt pnd →
    LexP sp pnd ((fut sp fs m i srt pt).1 ++ tail) ((fut sp fs m i srt pt).2 ++ List.replicate k []) := by
  intro m
  induction m with
  | zero =>
    intro i srt pt pnd hc
    exact lex_end ht k hc
  | succ m ih =>
    intro i srt pt pnd hc
    rw [fut]
    cases q : decide (fs.getD (4 * i) 0 < 7) with
    | false => exact ih (i + 1) srt pt pnd hc
    | true =>
      have hp := of_decide_eq_true q
      have hw := getD_fig hf (4 * i + 1)
      have hg := getD_fig hf (4 * i + 2)
      have I := ih (i + 1) (sortT sp (fs.getD (4 * i) 0)) (decide (4 ≤ fs.getD (4 * i + 2) 0))
      simp only [cond_true, List.append_assoc, List.cons_append]
      exact lex_join hp hw hc (lex_tok hp hw hg I)
theorem plain_law (fs : List Nat) (hf : ∀ n ∈ fs, n < 8) (hz : fs.length ≤ 100) (split : Bool) (sio pb fs' pc : Addr) (m : Nat) : Lexes (c04 split sio pb fs' pc) (ptext (pall split fs)) ((pall split fs).toks ++ List.replicate m []) D0 := by
  have hb := prun_bound (split := split) hf (pnum fs)
  have hm : pnum fs ≤ 100 := by unfold pnum; omega
  obtain ⟨h1, h2⟩ := fut_run (sp := split) (fs := fs) (pnum fs) 0
  rw [Nat.zero_add] at h1 h2
  have ht : (cond (decide ((pall split fs).toks.length % 2 = 1)) (ofC ['#', '&']) []) = [] ∨ (cond (decide ((pall split fs).toks.length % 2 = 1)) (ofC ['#', '&']) []) = [35, 38] := by
    cases decide ((pall split fs).toks.length % 2 = 1)
    · exact .inl rfl
    · exact .inr rfl
  have L := lex_fut (sp := split) hf ht m (pnum fs) 0 (prun split fs 0).sort (prun split fs 0).parted none trivial
  have e1 : ptext (pall split fs) = (fut split fs (pnum fs) 0 (prun split fs 0).sort (prun split fs 0).parted).1 ++ (cond (decide ((pall split fs).toks.length % 2 = 1)) (ofC ['#', '&']) []) := by
    unfold ptext
    congr 1
  have e2 : (pall split fs).toks = (fut split fs (pnum fs) 0 (prun split fs 0).sort (prun split fs 0).parted).2 := h2
  have L : LexR split (.str [32]) (ptext (pall split fs)) ((pall split fs).toks ++ List.replicate m []) := by
    rw [e1]
    have : (pall split fs).toks ++ List.replicate m [] = (fut split fs (pnum fs) 0 (prun split fs 0).sort (prun split fs 0).parted).2 ++ List.replicate m [] := by rw [e2]
    rw [this]
    exact L
  refine lexes_of _ D0 (.str [32]) _ L rfl rfl rfl rfl rfl ?_
  unfold ptext pall
  rw [List.length_append]
  have : (cond (decide ((prun split fs (pnum fs)).toks.length % 2 = 1)) (ofC ['#', '&']) []).length ≤ 2 := by cases decide ((prun split fs (pnum fs)).toks.length % 2 = 1) <;> decide
  omega

end
section
variable {C : Cx} {f : Fx} {ns : List (PySem.Str × NameKind)} {d : Nat} {X : XT} {ρ : Loc} {σ : AH} {K : List Addr} {O O' : List AO}
local macro_rules | `(tactic| walk_at "o2") => `(tactic| first | ((with_reducible apply O2.pow_int); (focus (decide)); (focus (decide))) | with_reducible refine O2.isub_int ?_)
/-- figures to the base 8 -/
noncomputable def figV (vs : List V) : Prop := ∃ fs : List Nat, (∀ n ∈ fs, n < 8) ∧ vs = fs.map fun n : Nat => V.int n
theorem figV_snoc {vs : List V} {rest : Int} (h : figV vs) (h0 : 0 ≤ rest) : figV (vs ++ [V.int (rest.fmod 8)]) := by
  obtain ⟨fs, h1, rfl⟩ := h
  have h3 : 0 ≤ rest.fmod 8 := Int.fmod_nonneg_of_pos _ (by decide)
  have h2 : rest.fmod 8 < 8 := Int.fmod_lt_of_pos _ (by decide)
  refine ⟨fs ++ [(rest.fmod 8).toNat], fun n hn => ?_, ?_⟩
  · rcases List.mem_append.mp hn with q | q
    · exact h1 n q
    · simp only [List.mem_cons, List.not_mem_nil, or_false] at q
      omega
  · rw [List.map_append]
    have : (((rest.fmod 8).toNat : Nat) : Int) = rest.fmod 8 := by omega
    simp [this]
theorem f_digits (hK : C.K = KK C.w.params) (ok : f.Ok (d + 1) ns) (hA : f.A.handled = none) (hn : K.Nodup) (hl : K.length = O.length) {L : Addr} {is : List Int} (hL : StatL C L is) (hz : is.length ≤ 1000000) {Q : V → AH → Prop}
    (h : ∀ a b vs ws, (b :: a :: K).Nodup → figV vs → vs.length ≤ 100 → Q (.ref a) (ov (b :: a :: K) (.list ws :: .list vs :: O) σ)) :
    OC C f X ρ (.stat (.ref 733)) [.stat (.ref L), .int 8] [] (ov K O σ) Q := by
  refine OC.def ok (by rw [hK]; exact g733 _) (Binds.p2 (by rw [hK]; exact b733 _)) fun f' ok' hh => ?_
  clear ok
  have hA' := hh hA
  rw [hK] at ok' ⊢
  conv at ok' in (namesOf _) => whnf
  walk_at "in"
  walk_at "ww"
  rename_i a n1
  refine Ex.for_gen XOk.no (fun _ _ _ _ h => h) ?_ (by intros; with_unfolding_all rfl) (by intros; with_unfolding_all rfl)
  refine Ev.slice_stat hL ?_
  walk_at "ww"
  refine ⟨rfl, by omega, _, _, _, rfl, n1, by walk_at "len", fun b n2 => ?_⟩
  refine ⟨_, _, Iters.list (vs := (pslice is none (some 100)).map V.int) hA' (ov_get n2 .head), fun k ρ' σ' => ∃ vs xo ro, figV vs ∧ vs.length ≤ 100 ∧ ρ' = [some (V.stat (Value.ref L)), some (V.int 8), some (V.ref a), xo, ro, none, none] ∧
    σ' = ov (b :: a :: K) (.list ((pslice is none (some 100)).map V.int) :: .list vs :: O) σ, ?_, ?_, ?_, ?_⟩
  · exact ⟨[], none, none, ⟨[], (fun _ h => nomatch h), rfl⟩, Nat.zero_le _, rfl, rfl⟩
  · rintro k ρ' σ' ⟨vs, xo, ro, _, _, _, rfl⟩
    exact ov_get n2 .head
  · rintro k v ρ' σ' hv ⟨vs, xo, ro, h1, h2, rfl, rfl⟩
    rw [List.getElem?_map] at hv
    obtain ⟨x, hx, rfl⟩ := Option.map_eq_some_iff.mp hv
    walk_at "ww"
    refine Ex.while XOk.no (fun n ρ' σ' => ∃ vs, ∃ rest : Int, n = 100 - vs.length ∧ 0 ≤ rest ∧ figV vs ∧ vs.length ≤ 100 ∧ ρ' = [some (V.stat (Value.ref L)), some (V.int 8), some (V.ref a), some (V.int x), some (V.int rest), none, none] ∧
      σ' = ov (b :: a :: K) (.list ((pslice is none (some 100)).map V.int) :: .list vs :: O) σ) ?_ (100 - vs.length) ⟨vs, _, rfl, Int.fmod_nonneg_of_pos _ (by decide), h1, h2, rfl, rfl⟩
    rintro n _ _ ⟨vs, rest, rfl, h3, h4, h5, rfl, rfl⟩
    walk_at "ww"
    · rename_i q1 q2
      have q1 : (vs.length : Int) < 100 := of_decide_eq_true q1
      exact ⟨_, _, _, figV_snoc h4 h3, by simp; omega, rfl, rfl⟩
    · rename_i q1 q2
      have q1 : (vs.length : Int) < 100 := of_decide_eq_true q1
      refine ⟨_, by walk_at "gPutAt", ?_⟩
      walk_at "ww"
      have q3 : 0 ≤ rest.fdiv 8 := Int.fdiv_nonneg h3 (by decide)
      have q4 : rest.fdiv 8 ≠ 0 := fun e => by rw [e] at q2; cases q2
      exact ⟨_, by simp; omega, _, _, rfl, by omega, figV_snoc h4 h3, by simp; omega, rfl, rfl⟩
    · exact ⟨_, _, _, h4, h5, rfl, rfl⟩
  · rintro ρ' σ' ⟨vs, xo, ro, h1, h2, rfl, rfl⟩
    walk_at "ww"
    exact h _ _ _ _ n2 h1 h2

end
section
variable {C : Cx} {f : Fx} {ns : List (PySem.Str × NameKind)} {d : Nat} {X : XT} {ρ : Loc} {σ : AH} {K : List Addr} {O O' : List AO}
local macro_rules | `(tactic| walk_at "gGetO") => `(tactic| with_reducible assumption)
local macro_rules | `(tactic| walk_at "sz2") => `(tactic| first | (rw [List.length_map]; omega))
local macro_rules | `(tactic| walk_at "oc") => `(tactic| ((with_reducible apply OC.ov_range4); (focus (walk_at "asm")); (focus (walk_at "len")); (focus (simp; omega)); intro _ _))
local macro_rules | `(tactic| walk_at "sz2") => `(tactic| first | (rw [List.length_map]; omega) | (simp only [List.length_append]; omega) | (simp only [ofC, List.length_map, List.length_cons, List.length_nil]; omega) | (refine Nat.le_trans (Nat.add_le_add (pslice_length_le _ _ _) (Nat.le_refl _)) ?_; simp; omega) | (rw [List.length_append]; refine Nat.le_trans (Nat.add_le_add (pslice_length_le _ _ _) (Nat.le_refl _)) ?_; simp; omega))
local macro_rules | `(tactic| walk_at "o2") => `(tactic| ((with_reducible apply O2.ov_add_list); (focus (walk_at "asm")); (focus (walk_at "gGetO")); (focus (walk_at "gGetO")); (focus (walk_at "sz")); (focus (walk_at "len")); intro _ _))
theorem tabT_len8 : ∀ split : Bool, ∀ p < 7, (tabT split p).length = 8 := by decide
local macro_rules | `(tactic| walk_at "fig") => `(tactic| first | (show _ < 8; assumption) | (rw [wordsT_len]; assumption) | (rw [tabT_len8 _ _ (by assumption)]; assumption))
local macro_rules | `(tactic| walk_at "fig2") => `(tactic| first | decide | (rw [wordsT_len]; decide) | (rw [tabT_len8 _ _ (by assumption)]; decide))
local macro_rules | `(tactic| walk_at "w") => `(tactic| ((with_reducible show (∃ ρ', PutAt _ _ _ _ ρ' ∧ _)); refine ⟨_, by walk_at "gPutAt", ?_⟩))
local macro_rules | `(tactic| walk_at "w") => `(tactic| ((with_reducible show OS _ _ _ _ _ _ _ _ _ _); first
  | ((with_reducible apply OS.ov_last); (focus (walk_at "asm")); (focus (walk_at "gGetO")); (focus (walk_at "sz")); (focus (intros; with_unfolding_all rfl)))
  | ((with_reducible apply OS.ov_strs); (focus (walk_at "asm")); (focus (walk_at "gGetO")); (focus (walk_at "fig")); (focus (walk_at "fig2")); (focus (intros; with_unfolding_all rfl)))
  | ((with_reducible apply OS.ov_lit); (focus (walk_at "asm")); (focus (walk_at "gGetO")); (focus (walk_at "sz")); (focus (decide)); (focus (decide)); (focus (rfl)); (focus (intros; with_unfolding_all rfl)))))
local macro_rules | `(tactic| walk_at "ev") => `(tactic| ((with_reducible apply Ev.ifexp_chars); (focus (walk_at "asm")); (focus (walk_at "gGetAt"))))
noncomputable abbrev deedV (l : List (Nat × Nat)) : List V := l.map fun p => .tup [.int (p.1 : Nat), .int (p.2 : Nat)]
noncomputable abbrev piF (wo ru ma al ga tk td : Addr) (K : List Addr) : List Addr := td :: tk :: ga :: al :: ma :: ru :: wo :: K
noncomputable abbrev piO (WT : List (List Nat)) (S : PS) (O : List AO) : List AO := .list (deedV S.deeds) :: .list (S.toks.map V.str) :: .list (gapsT.map V.str) :: .list (aloneT.map V.str) :: .list (marksT.map V.str) :: .list (runsT.map V.str) :: .list (WT.map V.str) :: O
noncomputable def tabR (wo ru ma al : Addr) (p : Nat) : Addr := [wo, wo, ru, ru, ma, ma, al].getD p 0
theorem tabR_get {wo ru ma al ga : Addr} {split : Bool} {p : Nat} (hp : p < 7) : GetO (ga :: al :: ma :: ru :: wo :: K) (.list (gapsT.map V.str) :: .list (aloneT.map V.str) :: .list (marksT.map V.str) :: .list (runsT.map V.str) :: .list ((wordsT split).map V.str) :: O) (tabR wo ru ma al p) (.list ((tabT split p).map V.str)) := by
  have hp' : p = 0 ∨ p = 1 ∨ p = 2 ∨ p = 3 ∨ p = 4 ∨ p = 5 ∨ p = 6 := by omega
  rcases hp' with rfl | rfl | rfl | rfl | rfl | rfl | rfl
  · exact .tail (.tail (.tail (.tail .head)))
  · exact .tail (.tail (.tail (.tail .head)))
  · exact .tail (.tail (.tail .head))
  · exact .tail (.tail (.tail .head))
  · exact .tail (.tail .head)
  · exact .tail (.tail .head)
  · exact .tail .head
noncomputable def piI (r wo ru ma al ga tk td : Addr) (split : Bool) (WT : List (List Nat)) (K : List Addr) (O : List AO) (S : PS) (ρ' : Loc) (σ' : AH) : Prop :=
  ∃ τ ko po wo' go dO bo, ρ' = [some (.ref r), some (.bool split), some (.ref wo), some (.ref ru), some (.ref ma), some (.ref al), some (.ref ga), some (.str S.text), some (.ref tk), some (.ref td), some (.str S.sort), some (.bool S.parted), ko, po, wo', go, dO, bo, none, none] ∧
    σ' = ov (piF wo ru ma al ga tk td K) (piO WT S O) τ
theorem piI.mk {r wo ru ma al ga tk td : Addr} {split pt : Bool} {WT : List (List Nat)} {S : PS} {text srt : List Nat} {ko po wo' go dO bo : Option V} {τ : AH} (h1 : text = S.text) (h2 : srt = S.sort) (h3 : pt = S.parted) (h4 : O' = piO WT S O) :
    piI r wo ru ma al ga tk td split WT K O S [some (.ref r), some (.bool split), some (.ref wo), some (.ref ru), some (.ref ma), some (.ref al), some (.ref ga), some (.str text), some (.ref tk), some (.ref td), some (.str srt), some (.bool pt), ko, po, wo', go, dO, bo, none, none] (ov (piF wo ru ma al ga tk td K) O' τ) := by
  subst h1 h2 h3 h4
  exact ⟨_, _, _, _, _, _, _, rfl, rfl⟩
theorem pieces_loop (hK : C.K = KK C.w.params) (ok : f.Ok d (namesOf (fnAt C.K 740))) (hA' : f.A.handled = none) {r wo ru ma al ga tk td : Addr} {fs : List Nat} {split : Bool} (n7 : (piF wo ru ma al ga tk td K).Nodup) (hl : K.length = O.length)
    (g : GetO K O r (.list (fs.map fun n : Nat => V.int n))) (hz : fs.length ≤ 100) (hf : ∀ n ∈ fs, n < 8) {Q : Fl → Loc → AH → Prop}
    (h : ∀ ρ τ, Q (.ret (.tup [.str (ptext (pall split fs)), .ref tk, .ref td])) ρ (ov (piF wo ru ma al ga tk td K) (piO (wordsT split) (pall split fs) O) τ)) :
    Ex C f NoX [some (.ref r), some (.bool split), some (.ref wo), some (.ref ru), some (.ref ma), some (.ref al), some (.ref ga), some (.str (ofC [])), some (.ref tk), some (.ref td), some (.str (ofC ['n', 'o', 'n', 'e'])), some (.bool true), none, none, none, none, none, none, none, none]
      (execs ((bodyOf (fnAt C.K 740)).drop 11) f.env) (ov (piF wo ru ma al ga tk td K) (piO (wordsT split) (prun split fs 0) O) σ) Q := by
  rw [hK] at ok ⊢
  conv at ok in (namesOf _) => whnf
  conv in (bodyOf _) => whnf
  simp only [List.drop]
  walk_at "w"
  refine Ex.for_gen XOk.no (fun _ _ _ _ h => h) ?_ (by intros; with_unfolding_all rfl) (by intros; with_unfolding_all rfl)
  walk_at "ww"
  rename_i ra n8
  rw [List.length_map]
  refine ⟨_, _, Iters.range (n := pnum fs) hA' (ov_get n8 .head) (range_small' _ (by omega)) range_size, fun k ρ' σ' => piI r wo ru ma al ga tk td split (wordsT split) K O (prun split fs k) ρ' σ', ?_, ?_, ?_, ?_⟩
  · exact ⟨_, none, none, none, none, none, none, rfl, ov_sink n8⟩
  · exact fun _ _ _ _ => trivial
  · rintro k v ρ' σ' hv ⟨τ, ko, po, wo', go, dO, bo, rfl, rfl⟩
    rw [List.getElem?_map] at hv
    obtain ⟨k', hk, rfl⟩ := Option.map_eq_some_iff.mp hv
    have hk2 : k < pnum fs := by
      by_cases q : k < pnum fs
      · exact q
      · rw [List.getElem?_eq_none (by simpa using q)] at hk; cases hk
    rw [List.getElem?_range hk2] at hk
    cases hk
    have hb := prun_bound (split := split) hf k
    have hp := getD_fig hf (4 * k)
    have hw := getD_fig hf (4 * k + 1)
    have hg := getD_fig hf (4 * k + 2)
    have hd := getD_fig hf (4 * k + 3)
    have hkk : 4 * k < fs.length := by unfold pnum at hk2; omega
    have hq := quad hkk
    have e1 : prun split fs (k + 1) = pstep split (prun split fs k) (fs.getD (4 * k) 0) (fs.getD (4 * k + 1) 0) (fs.getD (4 * k + 2) 0) (fs.getD (4 * k + 3) 0) := rfl
    simp only [e1]
    clear e1
    generalize prun split fs k = S at hb ⊢
    generalize fs.getD (4 * k) 0 = p at hp hq ⊢
    generalize fs.getD (4 * k + 1) 0 = w at hw hq ⊢
    generalize fs.getD (4 * k + 2) 0 = gp at hg hq ⊢
    generalize fs.getD (4 * k + 3) 0 = dd at hd hq ⊢
    walk_at "ww"
    rw [hq]
    refine AsV.tuple hA' (.inr ⟨_, rfl, ov_get (by assumption) .head⟩) rfl ?_
    refine AsL.cons ?_
    walk_at "w"
    refine AsL.cons ?_
    walk_at "w"
    refine AsL.cons ?_
    walk_at "w"
    refine AsL.cons ?_
    walk_at "w"
    refine AsL.nil ?_
    have hT : S.text.length ≤ 1100 := by unfold pnum at hk2; omega
    have hS : S.toks.length ≤ 100 ∧ S.deeds.length ≤ 100 := by unfold pnum at hk2; omega
    · walk_at "ww"
      · rename_i q1 sl nsl
        have hp7 : p < 7 := by have := of_decide_eq_true q1; omega
        refine OS.ov_lit (v := .str (sortT split p)) nsl .head (by simp) (by simp) (by simp; omega) ?_ (by intros; with_unfolding_all rfl) ?_
        · have hp' : p = 0 ∨ p = 1 ∨ p = 2 ∨ p = 3 ∨ p = 4 ∨ p = 5 ∨ p = 6 := by omega
          rcases hp' with rfl | rfl | rfl | rfl | rfl | rfl | rfl <;> rfl
        walk_at "w"
        refine Ex.seq_same (ρ₁ := [some (.ref r), some (.bool split), some (.ref wo), some (.ref ru), some (.ref ma), some (.ref al), some (.ref ga), some (.str (S.text ++ cond (!S.parted && joins S.sort (sortT split p)) [32] [])), some (.ref tk), some (.ref td), some (.str (sortT split p)), some (.bool S.parted), some (.int (0 + (k : Int) * 4)), some (.int (p : Nat)), some (.int (w : Nat)), some (.int (gp : Nat)), some (.int (dd : Nat)), some (.str S.sort), none, none]) ?_ ?_
        · generalize sortT split p = srt
          walk_at "ww"
          all_goals (refine ⟨rfl, ?_, rfl⟩)
          all_goals (simp only [List.cons.injEq, Option.some.injEq, V.str.injEq, and_true, true_and])
          all_goals (clear hq hkk hk2 h hf hz hT hS hb)
          all_goals (simp only [joins, *, Bool.not_false, Bool.not_true, Bool.true_and, Bool.false_and, Bool.and_true, Bool.and_false, Bool.or_false, Bool.false_or, Bool.or_true, Bool.true_or, cond_true, cond_false, List.append_nil])
          all_goals rfl
        · have hG := tabR_get (K := K) (O := O) (wo := wo) (ru := ru) (ma := ma) (al := al) (ga := ga) (split := split) hp7
          have hL : (S.text ++ cond (!S.parted && joins S.sort (sortT split p)) [32] []).length ≤ 1101 := by
            rw [List.length_append]
            cases (!S.parted && joins S.sort (sortT split p)) <;> simp <;> omega
          have hL2 := tabT_len split p hp7 w hw
          have hL3 := gapsT_len gp hg
          have e1 : pstep split S p w gp dd = { text := (S.text ++ cond (!S.parted && joins S.sort (sortT split p)) [32] []) ++ ((tabT split p).getD w [] ++ gapsT.getD gp []), toks := S.toks ++ [(tabT split p).getD w []], deeds := S.deeds ++ [(dd, w)], sort := sortT split p, parted := decide (4 ≤ gp) } := by
            unfold pstep
            rw [decide_eq_true hp7]
            rfl
          simp only [e1]
          generalize (S.text ++ cond (!S.parted && joins S.sort (sortT split p)) [32] []) = tx1 at hL ⊢
          generalize sortT split p = srt
          walk_at "ww"
          rename_i sm nsm
          refine OS.ov_lit (v := .ref (tabR wo ru ma al p)) nsm .head (by simp) (by simp) (by simp; omega) ?_ (by intros; with_unfolding_all rfl) ?_
          · have hp' : p = 0 ∨ p = 1 ∨ p = 2 ∨ p = 3 ∨ p = 4 ∨ p = 5 ∨ p = 6 := by omega
            rcases hp' with rfl | rfl | rfl | rfl | rfl | rfl | rfl <;> rfl
          walk_at "ww"
          have e4 : decide (4 ≤ (gp : Int)) = decide (4 ≤ gp) := by rw [decide_eq_decide]; omega
          have e5 : deedV (S.deeds ++ [(dd, w)]) = deedV S.deeds ++ [V.tup [.int (dd : Nat), .int (w : Nat)]] := by simp [deedV]
          have e6 : (S.toks ++ [(tabT split p).getD w []]).map V.str = S.toks.map V.str ++ [.str ((tabT split p).getD w [])] := by simp
          rw [ov_sink (by assumption), ov_sink (by assumption), ov_sink (by assumption), ov_sink (by assumption), ov_sink (by assumption), ov_sink (by assumption)]
          exact piI.mk rfl rfl e4 (by simp only [piO, e5, e6])
      · rename_i q1
        have hp7 : ¬ p < 7 := by have := of_decide_eq_false q1; omega
        have e1 : pstep split S p w gp dd = { S with deeds := S.deeds ++ [(dd, w)] } := by
          unfold pstep
          rw [decide_eq_false hp7]
          rfl
        have e5 : deedV (S.deeds ++ [(dd, w)]) = deedV S.deeds ++ [V.tup [.int (dd : Nat), .int (w : Nat)]] := by simp [deedV]
        simp only [e1]
        rw [ov_sink (by assumption), ov_sink (by assumption), ov_sink (by assumption), ov_sink (by assumption)]
        exact piI.mk rfl rfl rfl (by simp only [piO, e5])
  · rintro ρ' σ' ⟨τ, ko, po, wo', go, dO, bo, rfl, rfl⟩
    have hb := prun_bound (split := split) hf (pnum fs)
    have hm : pnum fs ≤ 100 := by unfold pnum; omega
    have hT : (prun split fs (pnum fs)).text.length ≤ 1100 := by omega
    have hS : (prun split fs (pnum fs)).toks.length ≤ 100 ∧ (prun split fs (pnum fs)).deeds.length ≤ 100 := by omega
    simp only [List.length_map, List.length_range]
    unfold pall ptext at h
    generalize prun split fs (pnum fs) = S at hT hS h ⊢
    walk_at "ww"
    · rename_i q
      rw [List.length_map, beq_iff_eq, Int.fmod_eq_emod_of_nonneg _ (by decide)] at q
      have q2 : decide (S.toks.length % 2 = 1) = true := decide_eq_true (by omega)
      rw [q2] at h
      exact h _ _
    · rename_i q
      rw [List.length_map, beq_eq_false_iff_ne, Int.fmod_eq_emod_of_nonneg _ (by decide)] at q
      have q2 : decide (S.toks.length % 2 = 1) = false := decide_eq_false (by omega)
      rw [q2, cond_false, List.append_nil] at h
      exact h _ _

end
section
variable {C : Cx} {f : Fx} {ns : List (PySem.Str × NameKind)} {d : Nat} {X : XT} {ρ : Loc} {σ : AH} {K : List Addr} {O O' : List AO}
local macro_rules | `(tactic| walk_at "gGetO") => `(tactic| with_reducible assumption)
theorem f_pieces (hK : C.K = KK C.w.params) (ok : f.Ok (d + 1) ns) (hA : f.A.handled = none) (hn : K.Nodup) (hl : K.length = O.length) {r : Addr} {fs : List Nat} {split : Bool} (g : GetO K O r (.list (fs.map fun n : Nat => V.int n))) (hz : fs.length ≤ 100) (hf : ∀ n ∈ fs, n < 8) {Q : V → AH → Prop}
    (h : ∀ td tk, (td :: tk :: K).Nodup → Q (.tup [.str (ptext (pall split fs)), .ref tk, .ref td]) (ov (td :: tk :: K) (.list (deedV (pall split fs).deeds) :: .list ((pall split fs).toks.map V.str) :: O) noH)) :
    OC C f X ρ (.stat (.ref 740)) [.ref r, .bool split] [] (ov K O σ) Q := by
  refine OC.weak (OC.def ok (by rw [hK]; exact g740 _) (Binds.p2 (by rw [hK]; exact b740 _)) fun f' ok' hh => ?_)
  clear ok
  have hA' := hh hA
  have ok0 := fun (_ : Unit) => ok'
  rw [hK] at ok' ⊢
  conv at ok' in (namesOf _) => whnf
  walk_at "in"
  cases split
  · repeat' ((fail_if_success (with_reducible show Ev _ _ _ _ (eval (Expr.List _ _) _) _ _)); walk_at "w")
    with_reducible refine Ev.ov_strs (ls := wordsT false) hn (by walk_at "len") (by decide +kernel) (by decide) fun wo n1 => ?_
    repeat' ((fail_if_success (with_reducible show Ev _ _ _ _ (eval (Expr.List _ _) _) _ _)); walk_at "w")
    with_reducible refine Ev.ov_strs (ls := runsT) n1 (by walk_at "len") (by decide +kernel) (by decide) fun ru n2 => ?_
    repeat' ((fail_if_success (with_reducible show Ev _ _ _ _ (eval (Expr.List _ _) _) _ _)); walk_at "w")
    with_reducible refine Ev.ov_strs (ls := marksT) n2 (by walk_at "len") (by decide +kernel) (by decide) fun ma n3 => ?_
    repeat' ((fail_if_success (with_reducible show Ev _ _ _ _ (eval (Expr.List _ _) _) _ _)); walk_at "w")
    with_reducible refine Ev.ov_strs (ls := aloneT) n3 (by walk_at "len") (by decide +kernel) (by decide) fun al n4 => ?_
    repeat' ((fail_if_success (with_reducible show Ev _ _ _ _ (eval (Expr.List _ _) _) _ _)); walk_at "w")
    with_reducible refine Ev.ov_strs (ls := gapsT) n4 (by walk_at "len") (by decide +kernel) (by decide) fun ga n5 => ?_
    repeat' ((fail_if_success (with_reducible show Ex _ _ _ _ (execs (Stmt.For _ _ _ _ _ :: _) _) _ _)); walk_at "w")
    try dsimp only
    rename_i tk n6 td n7
    have L := fun (Q' : Fl → Loc → AH → Prop) hQ => pieces_loop (σ := σ) hK (ok0 ()) hA' (K := K) (O := O) (r := r) (wo := wo) (ru := ru) (ma := ma) (al := al) (ga := ga) (tk := tk) (td := td) (fs := fs) (split := false) n7 (by walk_at "len") g hz hf (Q := Q') hQ
    rw [hK] at L
    conv at L in (bodyOf _) => whnf
    simp only [List.drop] at L
    refine L _ fun ρ τ => ⟨_, ?_, h td tk (n7.sublist (.cons₂ _ (.cons₂ _ (.cons _ (.cons _ (.cons _ (.cons _ (.cons _ (List.Sublist.refl _)))))))))⟩
    refine ov_le n7 fun k o gk => ?_
    cases gk with
    | head => exact .head
    | tail gk => cases gk with
      | head => exact .tail .head
      | tail gk => exact .tail (.tail (.tail (.tail (.tail (.tail (.tail gk))))))
  · repeat' ((fail_if_success (with_reducible show Ev _ _ _ _ (eval (Expr.List _ _) _) _ _)); walk_at "w")
    with_reducible refine Ev.ov_strs (ls := wordsT false) hn (by walk_at "len") (by decide +kernel) (by decide) fun w0 n0 => ?_
    repeat' ((fail_if_success (with_reducible show Ev _ _ _ _ (eval (Expr.List _ _) _) _ _)); walk_at "w")
    with_reducible refine Ev.ov_strs (ls := wordsT true) n0 (by walk_at "len") (by decide +kernel) (by decide) fun wo n1 => ?_
    repeat' ((fail_if_success (with_reducible show Ev _ _ _ _ (eval (Expr.List _ _) _) _ _)); walk_at "w")
    with_reducible refine Ev.ov_strs (ls := runsT) n1 (by walk_at "len") (by decide +kernel) (by decide) fun ru n2 => ?_
    repeat' ((fail_if_success (with_reducible show Ev _ _ _ _ (eval (Expr.List _ _) _) _ _)); walk_at "w")
    with_reducible refine Ev.ov_strs (ls := marksT) n2 (by walk_at "len") (by decide +kernel) (by decide) fun ma n3 => ?_
    repeat' ((fail_if_success (with_reducible show Ev _ _ _ _ (eval (Expr.List _ _) _) _ _)); walk_at "w")
    with_reducible refine Ev.ov_strs (ls := aloneT) n3 (by walk_at "len") (by decide +kernel) (by decide) fun al n4 => ?_
    repeat' ((fail_if_success (with_reducible show Ev _ _ _ _ (eval (Expr.List _ _) _) _ _)); walk_at "w")
    with_reducible refine Ev.ov_strs (ls := gapsT) n4 (by walk_at "len") (by decide +kernel) (by decide) fun ga n5 => ?_
    repeat' ((fail_if_success (with_reducible show Ex _ _ _ _ (execs (Stmt.For _ _ _ _ _ :: _) _) _ _)); walk_at "w")
    try dsimp only
    rename_i tk n6 td n7
    have L := fun (Q' : Fl → Loc → AH → Prop) hQ => pieces_loop (σ := σ) hK (ok0 ()) hA' (K := w0 :: K) (O := .list ((wordsT false).map V.str) :: O) (r := r) (wo := wo) (ru := ru) (ma := ma) (al := al) (ga := ga) (tk := tk) (td := td) (fs := fs) (split := true) n7 (by walk_at "len") (.tail g) hz hf (Q := Q') hQ
    rw [hK] at L
    conv at L in (bodyOf _) => whnf
    simp only [List.drop] at L
    refine L _ fun ρ τ => ⟨_, ?_, h td tk (n7.sublist (.cons₂ _ (.cons₂ _ (.cons _ (.cons _ (.cons _ (.cons _ (.cons _ (.cons _ (List.Sublist.refl _))))))))))⟩
    refine ov_le n7 fun k o gk => ?_
    cases gk with
    | head => exact .head
    | tail gk => cases gk with
      | head => exact .tail .head
      | tail gk => exact .tail (.tail (.tail (.tail (.tail (.tail (.tail (.tail gk)))))))

end
section
variable {C : Cx} {f : Fx} {ns : List (PySem.Str × NameKind)} {d : Nat} {X : XT} {ρ : Loc} {σ : AH} {K : List Addr} {O O' : List AO}
local macro_rules | `(tactic| walk_at "gGetO") => `(tactic| with_reducible assumption)
theorem lf_push (hK : C.K = KK C.w.params) (ok : f.Ok (d + 1) ns) (hN : K.Nodup) {c : Cfg} {self dd sd : Addr} {buf : List Nat} {D : Dy} {pb : List V} {v : V} (hz : pb.length ≤ 1000000)
    (g : PutAll K O (lexB c self dd sd) (lexP c dd D sd buf pb) O) (hn : (lexB c self dd sd).Nodup) (p : PutAll K O (lexB c self dd sd) (lexP c dd D sd buf (v :: pb)) O') {Q : V → AH → Prop} (h : Q .none (ov K O' σ)) :
    OC C f X ρ (.stat (.ref 661)) [.ref self, v] [] (ov K O σ) Q := by
  rw [← ov_ov hN g]
  exact f_push hK ok hn hz (by rw [ov_ov hN p]; exact h)
theorem lf_get_pile (hK : C.K = KK C.w.params) (ok : f.Ok (d + 1) ns) (hN : K.Nodup) {c : Cfg} {self dd sd : Addr} {buf : List Nat} {D : Dy} {pb : List V} {v : V} (hz : pb.length ≤ 999999)
    (g : PutAll K O (lexB c self dd sd) (lexP c dd D sd buf (v :: pb)) O) (hn : (lexB c self dd sd).Nodup) (p : PutAll K O (lexB c self dd sd) (lexP c dd D sd buf pb) O') {Q : V → AH → Prop} (h : Q v (ov K O' σ)) :
    OC C f X ρ (.stat (.ref 683)) [.ref self] [] (ov K O σ) Q := by
  rw [← ov_ov hN g]
  exact f_get_pile hK ok hn hz (by omega) (by rw [ov_ov hN p]; exact h)
theorem lf_get_text (hK : C.K = KK C.w.params) (ok : f.Ok (d + 9) ns) (hN : K.Nodup) {c : Cfg} {self dd sd : Addr} {buf : List Nat} (hb : buf.length ≤ 1000000) (hp : c.punct.isEmpty = false) (hpl : c.punct.length ≤ 16777216)
    {D E : Dy} {n : Nat} (hq : D.q = false) (he : D.esc = [32]) (hk : okD n D) (hl : loop c buf n D = some E) (hpo : c.posix = false) (hso : c.source = .none) (heo : c.eof = .str [])
    (g : PutAll K O (lexB c self dd sd) (lexP c dd D sd buf []) O) (hn : (lexB c self dd sd).Nodup) (p : PutAll K O (lexB c self dd sd) (lexP c dd (nextD E) sd buf []) O') {Q : V → AH → Prop}
    (h : Q (.str E.tok) (ov K O' σ)) : OC C f X ρ (.stat (.ref 683)) [.ref self] [] (ov K O σ) Q := by
  rw [← ov_ov hN g]
  exact f_get_text hK ok hn hb hp hpl hq he hk hl hpo hso heo (by rw [ov_ov hN p]; exact h)
noncomputable abbrev ownT : List (List Nat) := [ofC [], ofC ['a'], ofC ['&'], ofC ['&', '&'], ofC ['"'], ofC [' '], ofC ['a', ' ', 'b'], ofC ['#']]
/-- the heap of _law_holds -/
noncomputable abbrev hoF (pi pc fs pb sd sio dd self td tk own : Addr) (K : List Addr) : List Addr := pi :: pc :: fs :: pb :: sd :: sio :: dd :: self :: td :: tk :: own :: K
noncomputable abbrev hoO (split : Bool) (pc fs pb sd sio dd : Addr) (buf : List Nat) (ps : List (List Nat)) (D : Dy) (ds : List (Nat × Nat)) (ts : List (List Nat)) (O : List AO) : List AO :=
  .list (ps.map V.str) :: .deque (pcV D.pc) :: .deque [] :: .deque (ps.map V.str) :: Mine.sio [10] buf D.pos :: .inst 587 sd :: fields lexKP (lexV (c04 split sio pb fs pc) D.st D.tok D.ln) :: .inst 722 dd :: .list (deedV ds) :: .list (ts.map V.str) :: .list (ownT.map V.str) :: O
local macro_rules | `(tactic| walk_at "o2") => `(tactic| first
  | ((with_reducible apply O2.ov_add_list); (focus (walk_at "asm")); (focus (walk_at "gGetO")); (focus (walk_at "gGetO")); (focus (walk_at "sz")); (focus (walk_at "len")); intro _ _)
  | ((with_reducible apply O2.ov_mul_list); (focus (walk_at "asm")); (focus (walk_at "gGetO")); (focus (omega)); (focus (simp only [List.length_map]; omega)); (focus (simp only [List.length_map, List.length_cons, List.length_nil]; omega)); (focus (simp)); (focus (walk_at "len")); intro _ _)
  | ((with_reducible apply O2.ov_ne_nil); (focus (walk_at "asm")); (focus (walk_at "asm")); (focus (walk_at "gGetO")); (focus (walk_at "gGetO"))))
local macro_rules | `(tactic| walk_at "sz2") => `(tactic| first | (rw [List.length_map]; omega) | (simp; omega))
local macro_rules | `(tactic| walk_at "fig") => `(tactic| (show _ < 8; assumption))
local macro_rules | `(tactic| walk_at "w") => `(tactic| ((with_reducible show OS _ _ _ _ _ _ _ _ _ _); ((with_reducible apply OS.ov_strs); (focus (walk_at "asm")); (focus (walk_at "gGetO")); (focus (walk_at "fig")); (focus (decide)); (focus (intros; with_unfolding_all rfl)))))
local macro_rules | `(tactic| walk_at "cond") => `(tactic| first | (simp; done) | (simp [*]; done))
local macro_rules | `(tactic| walk_at "oc") => `(tactic| first
  | ((with_reducible apply OC.ov_insert0); (focus (walk_at "asm")); (focus (walk_at "gGetO")); (focus (walk_at "sz")); (focus (walk_at "gPutO")))
  | ((with_reducible apply OC.ov_pop0); (focus (walk_at "asm")); (focus (walk_at "gGetO")); (focus (walk_at "sz")); (focus (walk_at "gPutO"))))
inductive HoI (r pi pc fs pb sd sio dd self td tk own z : Addr) (split : Bool) (buf : List Nat) (ds : List (Nat × Nat)) (items : List V) (K : List Addr) (O : List AO) (rem : Nat) : Loc → AH → Prop
  | mk (ps : List (List Nat)) (D : Dy) (ts : List (List Nat)) (l : List Nat) (dO wO la to du : Option V) (τ : AH) (hps : ps.length + rem ≤ 1000) (hL : Lexes (c04 split sio pb fs pc) buf (ts ++ List.replicate rem []) D) (hts : ts.length ≤ 100) :
    HoI r pi pc fs pb sd sio dd self td tk own z split buf ds items K O rem [some (.ref r), some (.bool split), some (.ref own), some (.str buf), some (.ref tk), some (.ref td), some (.ref self), some (.ref pi), some (.str l), dO, wO, la, to, du, none, none, none]
      (ov (z :: hoF pi pc fs pb sd sio dd self td tk own K) (.list items :: hoO split pc fs pb sd sio dd buf ps D ds ts O) τ)
theorem ho_push {α : Type} {x : α} {ps : List α} {m N : Nat} (h : ps.length + (m + 1) ≤ N) : (x :: ps).length + m ≤ N := by rw [List.length_cons]; omega
theorem ho_pop {α : Type} {x : α} {ps : List α} {m N : Nat} (h : (x :: ps).length + (m + 1) ≤ N) : ps.length + (m + 1) ≤ N := by rw [List.length_cons] at h; omega
theorem ho_same {l m N : Nat} (h : l + (m + 1) ≤ N) : l + m ≤ N := Nat.le_of_succ_le h
theorem ho_z {ps : List (List Nat)} {m : Nat} (h : ps.length + (m + 1) ≤ 1000) : (ps.map V.str).length ≤ 999999 := by rw [List.length_map]; omega
theorem ho_z' {ps : List (List Nat)} {m : Nat} (h : ps.length + (m + 1) ≤ 1000) : (ps.map V.str).length ≤ 1000000 := Nat.le_succ_of_le (ho_z h)
theorem ho_rem {n k : Nat} (h : k < n) : ∃ rem, n - k = rem + 1 ∧ n - (k + 1) = rem := ⟨n - k - 1, by omega, by omega⟩
theorem ho_n (ts : List (List Nat)) (ds : List (Nat × Nat)) : ((List.map V.str ts).length : Int) + ((deedV ds).length : Int) + 2 = ((ts.length + ds.length + 2 : Nat) : Int) := by rw [List.length_map, List.length_map]; omega
theorem ho_swap {α : Type} {a b : α} {l : List α} (h : (a :: b :: l).Nodup) : (b :: a :: l).Nodup := by
  rw [List.nodup_cons, List.nodup_cons] at h ⊢
  exact ⟨fun q => (List.mem_cons.mp q).elim (fun e => h.1 (e ▸ List.mem_cons_self ..)) h.2.1, fun q => h.1 (List.mem_cons_of_mem _ q), h.2.2⟩
theorem ho_ne {α : Type} {a b : α} {l : List α} (h : (a :: b :: l).Nodup) : a ≠ b := fun q => (List.nodup_cons.mp h).1 (by rw [q]; exact List.mem_cons_self ..)
theorem holds_loop (hK : C.K = KK C.w.params) (ok : f.Ok (d + 9) (namesOf (fnAt C.K 747))) (hA' : f.A.handled = none) {r pi pc fs pb sd sio dd self td tk own : Addr} {split : Bool} {buf : List Nat} {ds : List (Nat × Nat)} {ts : List (List Nat)}
    (n7 : (hoF pi pc fs pb sd sio dd self td tk own K).Nodup) (hl : K.length = O.length) (hb : buf.length ≤ 1000000) (hts : ts.length ≤ 100) (hds : ds.length ≤ 100) (hd8 : ∀ p ∈ ds, p.2 < 8)
    (hlex : ∀ m, Lexes (c04 split sio pb fs pc) buf (ts ++ List.replicate m []) D0) {Q : Fl → Loc → AH → Prop}
    (h : ∀ ρ ps D ts τ, Q (.ret (.bool true)) ρ (ov (hoF pi pc fs pb sd sio dd self td tk own K) (hoO split pc fs pb sd sio dd buf ps D ds ts O) τ)) :
    Ex C f NoX [some (.ref r), some (.bool split), some (.ref own), some (.str buf), some (.ref tk), some (.ref td), some (.ref self), some (.ref pi), some (.str (ofC [])), none, none, none, none, none, none, none, none]
      (execs ((bodyOf (fnAt C.K 747)).drop 6) f.env) (ov (hoF pi pc fs pb sd sio dd self td tk own K) (hoO split pc fs pb sd sio dd buf [] D0 ds ts O) σ) Q := by
  rw [hK] at ok ⊢
  conv at ok in (namesOf _) => whnf
  conv in (bodyOf _) => whnf
  simp only [List.drop]
  walk_at "w"
  refine Ex.for_listT XOk.no (fun _ _ _ _ h => h) ?_ (by intros; with_unfolding_all rfl)
  walk_at "ww"
  rename_i z1 m1 z2 m2 z m3
  rw [ho_n, Int.toNat_natCast]
  have hitem : ∀ v ∈ deedV ds ++ (List.replicate (ts.length + ds.length + 2) [V.tup [V.int 0, V.int 0]]).flatten, ∃ de w : Nat, w < 8 ∧ v = V.tup [.int (de : Nat), .int (w : Nat)] := by
    intro v hv
    rcases List.mem_append.mp hv with q | q
    · obtain ⟨p, hp, rfl⟩ := List.mem_map.mp q
      exact ⟨p.1, p.2, hd8 p hp, rfl⟩
    · obtain ⟨l, h1, h2⟩ := List.mem_flatten.mp q
      rw [(List.mem_replicate.mp h1).2] at h2
      simp only [List.mem_cons, List.not_mem_nil, or_false] at h2
      exact ⟨0, 0, by decide, h2⟩
  have hlen : (deedV ds ++ (List.replicate (ts.length + ds.length + 2) [V.tup [V.int 0, V.int 0]]).flatten).length ≤ 400 := by
    simp only [List.length_append, List.length_map, List.length_flatten, List.map_replicate, List.length_cons, List.length_nil, List.sum_replicate_nat]; omega
  generalize (deedV ds ++ (List.replicate (ts.length + ds.length + 2) [V.tup [V.int 0, V.int 0]]).flatten) = items at hitem hlen ⊢
  have m4 : (z2 :: z :: z1 :: hoF pi pc fs pb sd sio dd self td tk own K).Nodup := ho_swap m3
  have m5 : (z1 :: z :: hoF pi pc fs pb sd sio dd self td tk own K).Nodup := ho_swap (List.nodup_cons.mp m4).2
  have mz : (z :: hoF pi pc fs pb sd sio dd self td tk own K).Nodup := (List.nodup_cons.mp m5).2
  rw [ov_swap (ho_ne m3), ov_sink m4, ov_swap (Ne.symm (ho_ne m5)), ov_sink m5]
  refine ⟨_, items, Iters.list hA' (ov_get mz .head), fun k ρ' σ' => HoI r pi pc fs pb sd sio dd self td tk own z split buf ds items K O (items.length - k) ρ' σ', ?_, ?_, ?_, ?_⟩
  · exact HoI.mk [] D0 ts _ none none none none none _ (by rw [List.length_nil, Nat.zero_add]; exact Nat.le_trans (Nat.sub_le ..) (Nat.le_trans hlen (by decide))) (hlex _) hts
  · rintro k ρ' σ' ⟨ps, D, ts, l, dO, wO, la, to, du, τ, _⟩
    exact ov_get mz .head
  · rintro k v ρ' σ' hv ⟨ps, D, ts, l, dO, wO, la, to, du, τ, hps, hLx, hts'⟩
    obtain ⟨de, w, hw, rfl⟩ := hitem v (List.mem_of_getElem? hv)
    have hk : k < items.length := (List.getElem?_eq_some_iff.mp hv).1
    obtain ⟨rem, hrem, hrem2⟩ := ho_rem hk
    rw [hrem] at hLx hps
    simp only [hrem2]
    refine AsV.tuple hA' (.inl rfl) rfl ?_
    refine AsL.cons ?_
    walk_at "w"
    refine AsL.cons ?_
    walk_at "w"
    refine AsL.nil ?_
    cases q4 : ((de : Int) == 4) with
    | true =>
      walk_at "ww"
      refine lf_push (d := d + 8) (c := c04 split sio pb fs pc) (self := self) (dd := dd) (sd := sd) (buf := buf) (D := D) (pb := ps.map V.str) hK ok (by assumption) (ho_z' hps) (by walk_at "pall") (by walk_at "nd") (by walk_at "pall") ?_
      walk_at "ww"
      exact HoI.mk (_ :: ps) D ts _ _ _ _ _ _ _ (ho_push hps) (hLx.less (Nat.le_succ _)) hts'
    | false =>
      cases q5 : ((de : Int) == 5) with
      | true =>
        walk_at "ww"
        refine lf_push (d := d + 8) (c := c04 split sio pb fs pc) (self := self) (dd := dd) (sd := sd) (buf := buf) (D := D) (pb := ps.map V.str) hK ok (by assumption) (ho_z' hps) (by walk_at "pall") (by walk_at "nd") (by walk_at "pall") ?_
        walk_at "ww"
        exact HoI.mk (_ :: ps) D ts _ _ _ _ _ _ _ (ho_push hps) (hLx.less (Nat.le_succ _)) hts'
      | false =>
        cases q3 : ((de : Int) == 3) with
        | true =>
          have q6 : ((de : Int) == 6) = false := by rw [beq_iff_eq] at q3; rw [q3]; rfl
          have q3n : ((de : Int) != 3) = false := by rw [bne, q3]; rfl
          cases ts with
          | nil =>
            rw [List.nil_append, List.replicate_succ] at hLx
            obtain ⟨hq, he, n, E, hkD, hlD, hE, hr⟩ := hLx
            rw [← List.nil_append (List.replicate rem [])] at hr
            simp only [hoO, List.map_nil]
            walk_at "ww"
            refine lf_read_token (d := d + 1) (c := c04 split sio pb fs pc) (self := self) (dd := dd) (sd := sd) (buf := buf) (D := D) (E := E) hK ok (by assumption) hb (by show pu04.isEmpty = false; decide) (by show pu04.length ≤ 16777216; decide) hq he hkD hlD (by walk_at "pall") (by walk_at "nd") (by walk_at "pall") ?_
            simp only [resV, Bool.false_and, cond_false]
            rw [hE]
            walk_at "ww"
            rw [ov_sink (by assumption)]
            exact HoI.mk ps (nextD E) [] _ _ _ _ _ _ _ (ho_same hps) hr hts'
          | cons t ts =>
            obtain ⟨hq, he, n, E, hkD, hlD, hE, hr⟩ := hLx
            have hts2 : ts.length ≤ 100 := Nat.le_of_succ_le hts'
            simp only [hoO, List.map_cons, List.map_nil]
            walk_at "ww"
            refine lf_read_token (d := d + 1) (c := c04 split sio pb fs pc) (self := self) (dd := dd) (sd := sd) (buf := buf) (D := D) (E := E) hK ok (by assumption) hb (by show pu04.isEmpty = false; decide) (by show pu04.length ≤ 16777216; decide) hq he hkD hlD (by walk_at "pall") (by walk_at "nd") (by walk_at "pall") ?_
            simp only [resV, Bool.false_and, cond_false]
            rw [hE]
            walk_at "ww"
            rw [ov_sink (by assumption)]
            exact HoI.mk ps (nextD E) ts _ _ _ _ _ _ _ (ho_same hps) (Lexes.less (n := rem + 1) hr (Nat.le_succ _)) hts2
        | false =>
          have q3n : ((de : Int) != 3) = true := by rw [bne, q3]; rfl
          cases ps with
          | nil =>
            cases ts with
            | nil =>
              rw [List.nil_append, List.replicate_succ] at hLx
              obtain ⟨hq, he, n, E, hkD, hlD, hE, hr⟩ := hLx
              rw [← List.nil_append (List.replicate rem [])] at hr
              simp only [hoO, List.map_nil]
              walk_at "ww"
              refine lf_get_text (d := d) (c := c04 split sio pb fs pc) (self := self) (dd := dd) (sd := sd) (buf := buf) (D := D) (E := E) hK ok (by assumption) hb (by show pu04.isEmpty = false; decide) (by show pu04.length ≤ 16777216; decide) hq he hkD hlD rfl rfl rfl (by walk_at "pall") (by walk_at "nd") (by walk_at "pall") ?_
              rw [hE]
              cases q6 : ((de : Int) == 6) with
              | true =>
                walk_at "ww"
                refine lf_push (d := d + 8) (c := c04 split sio pb fs pc) (self := self) (dd := dd) (sd := sd) (buf := buf) (D := nextD E) (pb := []) hK ok (by assumption) (Nat.zero_le _) (by walk_at "pall") (by walk_at "nd") (by walk_at "pall") ?_
                walk_at "ww"
                rw [ov_sink (by assumption), ov_sink (by assumption)]
                exact HoI.mk [[]] (nextD E) [] _ _ _ _ _ _ _ (ho_push hps) hr hts'
              | false =>
                walk_at "ww"
                rw [ov_sink (by assumption), ov_sink (by assumption)]
                exact HoI.mk [] (nextD E) [] _ _ _ _ _ _ _ (ho_same hps) hr hts'
            | cons t ts =>
              obtain ⟨hq, he, n, E, hkD, hlD, hE, hr⟩ := hLx
              have hts2 : ts.length ≤ 100 := Nat.le_of_succ_le hts'
              simp only [hoO, List.map_cons, List.map_nil]
              walk_at "ww"
              refine lf_get_text (d := d) (c := c04 split sio pb fs pc) (self := self) (dd := dd) (sd := sd) (buf := buf) (D := D) (E := E) hK ok (by assumption) hb (by show pu04.isEmpty = false; decide) (by show pu04.length ≤ 16777216; decide) hq he hkD hlD rfl rfl rfl (by walk_at "pall") (by walk_at "nd") (by walk_at "pall") ?_
              rw [hE]
              cases q6 : ((de : Int) == 6) with
              | true =>
                walk_at "ww"
                refine lf_push (d := d + 8) (c := c04 split sio pb fs pc) (self := self) (dd := dd) (sd := sd) (buf := buf) (D := nextD E) (pb := []) hK ok (by assumption) (Nat.zero_le _) (by walk_at "pall") (by walk_at "nd") (by walk_at "pall") ?_
                walk_at "ww"
                rw [ov_sink (by assumption), ov_sink (by assumption)]
                exact HoI.mk [t] (nextD E) ts _ _ _ _ _ _ _ (ho_push hps) (Lexes.less (n := rem + 1) hr (Nat.le_succ _)) hts2
              | false =>
                walk_at "ww"
                rw [ov_sink (by assumption), ov_sink (by assumption)]
                exact HoI.mk [] (nextD E) ts _ _ _ _ _ _ _ (ho_same hps) (Lexes.less (n := rem + 1) hr (Nat.le_succ _)) hts2
          | cons p ps =>
            have hps2 : ps.length + (rem + 1) ≤ 1000 := ho_pop hps
            simp only [hoO, List.map_cons, List.map_nil]
            walk_at "ww"
            refine lf_get_pile (d := d + 8) (c := c04 split sio pb fs pc) (self := self) (dd := dd) (sd := sd) (buf := buf) (D := D) (pb := ps.map V.str) (v := V.str p) hK ok (by assumption) (ho_z (ho_pop hps)) (by walk_at "pall") (by walk_at "nd") (by walk_at "pall") ?_
            cases q6 : ((de : Int) == 6) with
            | true =>
              walk_at "ww"
              refine lf_push (d := d + 8) (c := c04 split sio pb fs pc) (self := self) (dd := dd) (sd := sd) (buf := buf) (D := D) (pb := ps.map V.str) hK ok (by assumption) (ho_z' (ho_pop hps)) (by walk_at "pall") (by walk_at "nd") (by walk_at "pall") ?_
              walk_at "ww"
              rw [ov_sink (by assumption)]
              exact HoI.mk (p :: ps) D ts _ _ _ _ _ _ _ (ho_same hps) (hLx.less (Nat.le_succ _)) hts'
            | false =>
              walk_at "ww"
              rw [ov_sink (by assumption)]
              exact HoI.mk ps D ts _ _ _ _ _ _ _ (ho_same (ho_pop hps)) (hLx.less (Nat.le_succ _)) hts'
  · rintro ρ' σ' ⟨ps, D, ts, l, dO, wO, la, to, du, τ, _⟩
    rw [ov_sink mz]
    walk_at "ww"
    exact h _ ps D ts _

end
section
variable {C : Cx} {f : Fx} {ns : List (PySem.Str × NameKind)} {d : Nat} {X : XT} {ρ : Loc} {σ : AH} {K : List Addr} {O O' : List AO}
local macro_rules | `(tactic| walk_at "gGetO") => `(tactic| with_reducible assumption)
local macro_rules | `(tactic| walk_at "fns") => `(tactic| first
  | ((with_reducible apply f_shlex); (focus (walk_at "asm")); (focus (walk_at "asm")); (focus (walk_at "asm")); (focus (walk_at "asm")); (focus (walk_at "len")); (focus (walk_at "asm")); intro _ _ _ _ _ _ _ _; simp only [List.cons_append, List.nil_append]))
theorem deeds8 {split : Bool} {fs : List Nat} (h : ∀ n ∈ fs, n < 8) : ∀ i, ∀ p ∈ (prun split fs i).deeds, p.2 < 8
  | 0, p, hp => by cases hp
  | i + 1, p, hp => by
    have e : (prun split fs (i + 1)).deeds = (prun split fs i).deeds ++ [(fs.getD (4 * i + 3) 0, fs.getD (4 * i + 1) 0)] := by
      show (pstep split (prun split fs i) _ _ _ _).deeds = _
      unfold pstep
      cases decide (fs.getD (4 * i) 0 < 7) <;> rfl
    rw [e] at hp
    rcases List.mem_append.mp hp with q | q
    · exact deeds8 h i p q
    · simp only [List.mem_cons, List.not_mem_nil, or_false] at q
      rw [q]; exact getD_fig h _
theorem f_holds (hK : C.K = KK C.w.params) (ok : f.Ok (d + 10) ns) (hA : f.A.handled = none) (hn : K.Nodup) (hl : K.length = O.length) {r : Addr} {fs : List Nat} {split : Bool} (g : GetO K O r (.list (fs.map fun n : Nat => V.int n))) (hz : fs.length ≤ 100) (hf : ∀ n ∈ fs, n < 8)
    (hlex : ∀ sio pb fs' pc m, Lexes (c04 split sio pb fs' pc) (ptext (pall split fs)) ((pall split fs).toks ++ List.replicate m []) D0) {Q : V → AH → Prop} (h : Q (.bool true) (ov K O noH)) :
    OC C f X ρ (.stat (.ref 747)) [.ref r, .bool split] [] (ov K O σ) Q := by
  refine OC.weak (OC.def ok (by rw [hK]; exact g747 _) (Binds.p2 (by rw [hK]; exact b747 _)) fun f' ok' hh => ?_)
  clear ok
  have hA' := hh hA
  have ok0 := fun (_ : Unit) => ok'
  rw [hK] at ok' ⊢
  conv at ok' in (namesOf _) => whnf
  walk_at "in"
  repeat' ((fail_if_success (with_reducible show Ev _ _ _ _ (eval (Expr.List _ _) _) _ _)); walk_at "w")
  with_reducible refine Ev.ov_strs (ls := ownT) hn (by walk_at "len") (by decide +kernel) (by decide) fun ow n1 => ?_
  walk_at "ww"
  refine f_pieces (d := d + 8) hK ok' hA' n1 (by walk_at "len") (.tail g) hz hf fun td tk n2 => ?_
  have hbnd := prun_bound (split := split) hf (pnum fs)
  have hm : pnum fs ≤ 100 := by unfold pnum; omega
  have hb : (ptext (pall split fs)).length ≤ 1000000 := by
    unfold ptext pall
    rw [List.length_append]
    have : (cond (decide ((prun split fs (pnum fs)).toks.length % 2 = 1)) (ofC ['#', '&']) []).length ≤ 2 := by cases decide ((prun split fs (pnum fs)).toks.length % 2 = 1) <;> decide
    omega
  refine AsV.tuple hA' (.inl rfl) rfl ?_
  refine AsL.cons ?_
  walk_at "w"
  refine AsL.cons ?_
  walk_at "w"
  refine AsL.cons ?_
  walk_at "w"
  refine AsL.nil ?_
  repeat' ((fail_if_success (with_reducible show Ex _ _ _ _ (execs (Stmt.For _ _ _ _ _ :: _) _) _ _)); walk_at "w")
  dsimp only
  rename_i self dd pc fs' pb sd sio n3 pi n4
  have L := fun (Q' : Fl → Loc → AH → Prop) hQ => holds_loop (σ := noH) hK (ok0 ()) hA' (K := K) (O := O) (r := r) (pi := pi) (pc := pc) (fs := fs') (pb := pb) (sd := sd) (sio := sio) (dd := dd) (self := self) (td := td) (tk := tk) (own := ow) (split := split) (buf := ptext (pall split fs)) (ds := (pall split fs).deeds) (ts := (pall split fs).toks) n4 (by walk_at "len") hb
    (by unfold pall; omega) (by unfold pall; omega) (deeds8 hf _) (hlex sio pb fs' pc) (Q := Q') hQ
  rw [hK] at L
  conv at L in (bodyOf _) => whnf
  simp only [List.drop] at L
  refine L _ fun ρ ps D ts τ => ⟨_, ?_, h⟩
  refine ov_le n4 fun k o gk => ?_
  exact .tail (.tail (.tail (.tail (.tail (.tail (.tail (.tail (.tail (.tail (.tail gk))))))))))

end
section
variable {C : Cx} {f : Fx} {ns : List (PySem.Str × NameKind)} {d : Nat} {X : XT} {ρ : Loc} {σ : AH} {K : List Addr} {O O' : List AO}
/-- the law's own two statements -/
theorem law_tail {L : Addr} {is : List Int} (hK : C.K = KK C.w.params) (ok : f.Ok (d + 11) ns) (hA : f.A.handled = none) (hL : StatL C L is) (hz : is.length ≤ 1000000) {Q : V → AH → Prop}
    (h : ∀ a b vs ws, (b :: a :: K).Nodup → figV vs → vs.length ≤ 100 → Q (.ref a) (ov (b :: a :: K) (.list ws :: .list vs :: O) σ)) (hn : K.Nodup) (hl : K.length = O.length) :
    OC C f X ρ (.stat (.ref 733)) [.stat (.ref L), .int 8] [] (ov K O σ) Q := f_digits (d := d + 10) hK ok hA hn hl hL hz h
theorem law_holds (hK : C.K = KK C.w.params) (ok : f.Ok (d + 11) ns) (hA : f.A.handled = none) (hn : K.Nodup) (hl : K.length = O.length) {r : Addr} {vs : List V} {split : Bool} (g : GetO K O r (.list vs)) (hv : figV vs) (hz : vs.length ≤ 100) {Q : V → AH → Prop} (h : Q (.bool true) (ov K O noH)) :
    OC C f X ρ (.stat (.ref 747)) [.ref r, .bool split] [] (ov K O σ) Q := by
  obtain ⟨fs, h1, rfl⟩ := hv
  rw [List.length_map] at hz
  exact f_holds (d := d + 1) hK ok hA hn hl g hz h1 (fun sio pb fs' pc m => plain_law fs h1 hz split sio pb fs' pc m) h

end
section
local macro_rules | `(tactic| walk_at "fns") => `(tactic| first
  | ((with_reducible apply law_tail); (focus (walk_at "asm")); (focus (walk_at "asm")); (focus (walk_at "asm")); (focus (walk_at "asm")); (focus (walk_at "asm")); (rotate_left); (focus (exact List.nodup_nil)); (focus (rfl)); intro _ _ _ _ _ _ _)
  | ((with_reducible apply law_holds); (focus (walk_at "asm")); (focus (walk_at "asm")); (focus (walk_at "asm")); (focus (walk_at "asm")); (focus (walk_at "len")); (focus (walk_at "gGetO")); (focus (walk_at "asm")); (focus (walk_at "asm"))))
theorem main4.tw11054965630470224342 : True := trivial
theorem main4.tw2556714073599869202 : True := trivial
theorem main4.tw17486100400168545557 : True := trivial
theorem main4.tw2838328250287948243 : True := trivial
theorem main4.tw15733533552059209066 : True := trivial
theorem main4.tw11692201707769996304 : True := trivial
theorem main4.tw11232017965179425671 : True := trivial
theorem main4.tw8371452968287726249 : True := trivial
theorem main4.tw7756749383233310478 : True := trivial
theorem main4.tw15006323180759273496 : True := trivial
theorem main4.tw16522848648840498712 : True := trivial
theorem main4.tw2642160963292558980 : True := trivial
theorem main4.tw12484774187585143998 : True := trivial
theorem main4.tw16732721771453447713 : True := trivial
theorem main4.tw14572709512401975471 : True := trivial
theorem main4.tw11811734824420309683 : True := trivial
theorem main4.tw4560983423024990253 : True := trivial
theorem main4.tw1638622552299958317 : True := trivial
theorem main4.tw1997910992038800172 : True := trivial
theorem main4.tw7410830402036638327 : True := trivial
theorem main4.tw16983603077326889319 : True := trivial
theorem main4.tw9338677395585788916 : True := trivial
theorem main4.tw13660326878217477908 : True := trivial
theorem main4.tw2641082199162986176 : True := trivial
theorem main4.tw3506650006944226688 : True := trivial
theorem main4.tw18033774567123497319 : True := trivial
theorem main4.tw5144295245150531608 : True := trivial
theorem main4.tw1529308442387336264 : True := trivial
theorem main4.tw11579919096900337329 : True := trivial
theorem main4.tw12039887481877828890 : True := trivial
theorem main4.tw46311728426150380 : True := trivial
theorem main4.tw3742733068594099705 : True := trivial
theorem main4.tw14129719825561879429 : True := trivial
theorem main4.tw15299355154863086538 : True := trivial
theorem main4.tw17916089029282905247 : True := trivial
theorem main4.tw4644818778604313903 : True := trivial
theorem main4.tw5535401294627997117 : True := trivial
theorem main4.tw9330693257943100631 : True := trivial
theorem main4.tw11760329715874761834 : True := trivial
theorem main4.tw6508212600338000674 : True := trivial
theorem main4.tw5318297065750843353 : True := trivial
theorem main4.tw14983221805821905273 : True := trivial
theorem main4.tw10929790276051387206 : True := trivial
theorem main4.tw426251031189705723 : True := trivial
theorem main4.tw3428734447632865277 : True := trivial
theorem main4.tw4964544518440521764 : True := trivial
theorem main4.tw623375923379855957 : True := trivial
theorem main4.tw5516811025577099054 : True := trivial
theorem main4.tw1798964667749428631 : True := trivial
theorem main4.tw15360533460311306090 : True := trivial
theorem main4.tw17058308965551226400 : True := trivial
theorem main4.tw9954149401373101273 : True := trivial
theorem main4.tw15044965832149514059 : True := trivial
theorem main4.tw12280469465678528448 : True := trivial
theorem main4.tw22620539863140600 : True := trivial
theorem main4.tw17464683594121983617 : True := trivial
theorem main4.tw13833633589884893643 : True := trivial
theorem main4.tw12928226343432632821 : True := trivial
theorem main4.tw10918774784106918341 : True := trivial
theorem main4.tw16898814956169359434 : True := trivial
theorem main4.tw531011336512893781 : True := trivial
theorem main4.tw12551237991781620554 : True := trivial
theorem main4.tw6441257286135045457 : True := trivial
theorem main4.tw2798294042624782375 : True := trivial
theorem main4.tw16967154464359534696 : True := trivial
theorem main4.tw14730722508018948232 : True := trivial
theorem main4.tw2206537141764239670 : True := trivial
theorem main4.tw5137266971435464080 : True := trivial
theorem main4.tw5144457503523842879 : True := trivial
theorem main4.tw8506833060244316585 : True := trivial
theorem main4.tw15028568912313506896 : True := trivial
theorem main4.tw10155025544429590915 : True := trivial
theorem main4.tw14332107733635523544 : True := trivial
theorem main4.tw15099005603506317381 : True := trivial
theorem main4.tw8042961231317635376 : True := trivial
theorem main4.tw4981628559374741361 : True := trivial
theorem main4.tw5735632879307431517 : True := trivial
theorem main4.tw18008288015776052015 : True := trivial
theorem main4.tw15208008067986872013 : True := trivial
theorem main4.tw8010099064837666762 : True := trivial
theorem main4.tw5007378507062834170 : True := trivial
theorem main4.tw18043359925961652996 : True := trivial
theorem main4.tw18074470268530599631 : True := trivial
theorem main4.tw12481926611923460037 : True := trivial
theorem main4.tw12097338837816410245 : True := trivial
theorem main4.tw10456044538499082486 : True := trivial
theorem main4.tw8432185203813917659 : True := trivial
theorem main4.tw13313524750383338944 : True := trivial
theorem main4.tw2396122348299388406 : True := trivial
theorem main4.tw13391365824864152759 : True := trivial
theorem main4.tw15530697216784299162 : True := trivial
theorem main4.tw1231264597624673374 : True := trivial
theorem main4.tw6464239937954026930 : True := trivial
theorem main4.tw699208020924556873 : True := trivial
theorem main4.tw6432467476073881452 : True := trivial
theorem main4.tw11082455696834586620 : True := trivial
theorem main4.tw8940405429269748567 : True := trivial
theorem main4.tw15610005523771385209 : True := trivial
theorem main4.tw7650710458835312836 : True := trivial
theorem main4.tw18193979919120508586 : True := trivial
theorem main4.tw8380851276155395283 : True := trivial
theorem main4.tw13473859154307254702 : True := trivial
theorem main4.tw16560962426991450755 : True := trivial
theorem main4.tw11114081310489518755 : True := trivial
theorem main4.tw3222500270485803146 : True := trivial
theorem main4.tw3302236955765147120 : True := trivial
theorem main4.tw10313976840099747922 : True := trivial
theorem main4.tw1763471275365315534 : True := trivial
theorem main4.tw13045591380776304174 : True := trivial
theorem main4.tw5496206353940168877 : True := trivial
theorem main4.tw16163500195003326319 : True := trivial
theorem main4.tw9996601446842748344 : True := trivial
theorem main4.tw8940406793343032559 : True := trivial
theorem main4.tw17220474279008985791 : True := trivial
theorem main4.tw12991860132059974534 : True := trivial
theorem main4.tw5065508407682039878 : True := trivial
theorem main4.tw6860649227222249301 : True := trivial
theorem main4.tw10048295814555896979 : True := trivial
theorem main4.tw12054831092023495596 : True := trivial
theorem main4.tw6938052467348730372 : True := trivial
theorem main4.tw4154668974096016800 : True := trivial
theorem main4.tw4229370807540409097 : True := trivial
theorem main4.tw6027631601380352 : True := trivial
theorem main4.tw16351311119829549426 : True := trivial
theorem main4.tw15174945972986295950 : True := trivial
theorem main4.tw17064862390145025196 : True := trivial
theorem main4.tw7813494687106842181 : True := trivial
theorem main4.tw9067722505305162047 : True := trivial
theorem main4.tw16946080345705102785 : True := trivial
theorem main4.tw17725770938609016934 : True := trivial
theorem main4.tw8980950941847005251 : True := trivial
theorem main4.tw10150015486481391085 : True := trivial
theorem main4.tw11744868336602537907 : True := trivial
theorem main4.tw9378813349534534325 : True := trivial
theorem main4.tw9802449902770527932 : True := trivial
theorem main4.tw5902226161214733000 : True := trivial
theorem main4.tw11021783174588645508 : True := trivial
theorem main4.tw5908339080267588989 : True := trivial
theorem main4.tw14674032361744883696 : True := trivial
theorem main4.tw6204284751378919075 : True := trivial
theorem main4.tw469835231838698084 : True := trivial
theorem main4.tw14059261341110979426 : True := trivial
theorem main4.tw18054639135924640420 : True := trivial
theorem main4.tw11145107269566836623 : True := trivial
theorem main4.tw7323169530860819127 : True := trivial
theorem main4.tw14847736322112675806 : True := trivial
theorem main4.tw6068270820374661514 : True := trivial
theorem main4.tw4714632551503756413 : True := trivial
theorem main4.tw4645403220024839957 : True := trivial
theorem main4.tw11669075325918240580 : True := trivial
theorem main4.tw10563856994375430583 : True := trivial
theorem main4.tw14624504259904583947 : True := trivial
theorem main4.tw2186639729650159091 : True := trivial
theorem main4.tw13603805853201526287 : True := trivial
theorem main4.tw3490296806317490718 : True := trivial
theorem main4.tw9797173437813801142 : True := trivial
theorem main4.tw2076408323963367290 : True := trivial
theorem main4.tw16891746854083667751 : True := trivial
theorem main4.tw1651597338556697033 : True := trivial
theorem main4.tw14616521960471317767 : True := trivial
theorem main4.tw1679160041133299659 : True := trivial
theorem main4.tw16826422224305612889 : True := trivial
theorem main4.tw10769130572022090002 : True := trivial
theorem main4.tw11765924136494096856 : True := trivial
theorem main4.tw185911291200004347 : True := trivial
theorem main4.tw654839570550362898 : True := trivial
theorem main4.tw4695439760377631340 : True := trivial
theorem main4.tw1294709657743836493 : True := trivial
theorem main4.tw4021948725315388359 : True := trivial
theorem main4.tw10446548544026062826 : True := trivial
theorem main4.tw10760735581130299989 : True := trivial
theorem main4.tw3282412180270000113 : True := trivial
theorem main4.tw1365412448308203108 : True := trivial
theorem main4.tw9925455309974788281 : True := trivial
theorem main4.tw6659306377127155433 : True := trivial
theorem main4.tw14475638149721095231 : True := trivial
theorem main4.tw4962881376411031513 : True := trivial
theorem main4.tw14021853135289142909 : True := trivial
theorem main4.tw12653748083461569045 : True := trivial
theorem main4.tw1589396628960357155 : True := trivial
theorem main4.tw16271129156498898283 : True := trivial
theorem main4.tw17421381168743756720 : True := trivial
theorem main4.tw5180961603787029731 : True := trivial
theorem main4.tw5848097952850269882 : True := trivial
theorem main4.tw8803360618291029484 : True := trivial
theorem main4.tw11547400700110125110 : True := trivial
theorem main4.tw2361746829785866111 : True := trivial
theorem main4.tw15817865864682940841 : True := trivial
theorem main4.tw10606931551669535297 : True := trivial
theorem main4.tw15361038448736002918 : True := trivial
theorem main4.tw17194368008735426571 : True := trivial
theorem main4.tw3611299458742866067 : True := trivial
theorem main4.tw11900236140151077284 : True := trivial
theorem main4.tw5454972326997845408 : True := trivial
theorem main4.tw13194880706613147276 : True := trivial
theorem main4.tw15407996054048743688 : True := trivial
theorem main4.tw6260033776987211434 : True := trivial
theorem main4.tw1922279546096250743 : True := trivial
theorem main4.tw7834308630016304688 : True := trivial
theorem main4.tw14704435130053099550 : True := trivial
theorem main4.tw12522573005990520728 : True := trivial
theorem main4.tw8494292290722318937 : True := trivial
theorem main4.tw6019260020388575479 : True := trivial
theorem main4.tw13701823094848406069 : True := trivial
theorem main4.tw5044734914337080418 : True := trivial
theorem main4.tw9069334173441239841 : True := trivial
theorem main4.tw6015581105798496806 : True := trivial
theorem main4.tw3094201423771789042 : True := trivial
theorem main4.tw16758193611709280563 : True := trivial
theorem main4.tw10621642026426128674 : True := trivial
theorem main4.tw13629395136266845619 : True := trivial
theorem main4.tw7014883849706058872 : True := trivial
theorem main4.tw9139680570705174792 : True := trivial
theorem main4.tw10863727357744508509 : True := trivial
theorem main4.tw5134149629477647380 : True := trivial
theorem main4.tw12391714636443414370 : True := trivial
theorem main4.tw3000928096011016541 : True := trivial
theorem main4.tw5195622001364648464 : True := trivial
theorem main4.tw9765092943214548169 : True := trivial
theorem main4.tw5270442099644264760 : True := trivial
theorem main4.tw284963345646452433 : True := trivial
theorem main4.tw17980071964276650036 : True := trivial
theorem main4.tw16935384029314071393 : True := trivial
theorem main4.tw11597178469357809392 : True := trivial
theorem main4.tw11336003752396528776 : True := trivial
theorem main4.tw11574291879881191993 : True := trivial
theorem main4.tw9556582919130668826 : True := trivial
theorem main4.tw15784041428552758577 : True := trivial
theorem main4.tw13198264241535962082 : True := trivial
theorem main4.tw14510738732433113001 : True := trivial
theorem main4.tw1607642778305050321 : True := trivial
theorem main4.tw10533608322996227598 : True := trivial
theorem main4.tw3929816343140344518 : True := trivial
theorem main4.tw10372553674395399150 : True := trivial
theorem main4.tw16873515979537039749 : True := trivial
theorem main4.tw13329250930715132460 : True := trivial
theorem main4.tw6273781406339660260 : True := trivial
theorem main4.tw4859984287020884585 : True := trivial
theorem main4.tw7759094322066983336 : True := trivial
theorem main4.tw16525495425859430502 : True := trivial
theorem main4.tw1262342279821109287 : True := trivial
theorem main4.tw13353493378418734447 : True := trivial
theorem main4.tw15508483109713731470 : True := trivial
theorem main4.tw14142219389359414377 : True := trivial
theorem main4.tw3575493336215695798 : True := trivial
theorem main4.tw5070061285089142609 : True := trivial
theorem main4.tw15840698515854267033 : True := trivial
theorem main4.tw8178603503190515150 : True := trivial
theorem main4.tw15738444360548431001 : True := trivial
theorem main4.tw5665699279255028779 : True := trivial
theorem main4.tw11310886562723144328 : True := trivial
theorem main4.tw4371941214283361908 : True := trivial
theorem main4.tw1229191980278796478 : True := trivial
theorem main4.tw13395312190704938414 : True := trivial
theorem main4.tw1559250391058431865 : True := trivial
theorem main4.tw14301462198171848165 : True := trivial
theorem main4.tw5508456313951761610 : True := trivial
theorem main4.tw10591670526103518180 : True := trivial
theorem main4.tw13019048942831856035 : True := trivial
theorem main4.tw15291239227744141655 : True := trivial
theorem main4.tw15927945700053536955 : True := trivial
theorem main4.tw12046980906511238746 : True := trivial
theorem main4.tw398288362483297198 : True := trivial
theorem main4.tw3115974899375082923 : True := trivial
theorem main4.tw3488674505128069486 : True := trivial
theorem main4.tw7562057046996981780 : True := trivial
theorem main4.tw240160254424593011 : True := trivial
theorem main4.tw6598518477945325292 : True := trivial
theorem main4.tw17769180872022553952 : True := trivial
theorem main4.tw3486611210460623726 : True := trivial
theorem main4.tw16715880767628550395 : True := trivial
theorem main4.tw1735543656104952420 : True := trivial
theorem main4.tw13215684582673458031 : True := trivial
theorem main4.tw6050702845167915181 : True := trivial
theorem main4.tw1189754765595110236 : True := trivial
theorem main4.tw15890970341883859535 : True := trivial
theorem main4.tw4936257890642922628 : True := trivial
theorem main4.tw16896674400882850769 : True := trivial
theorem main4.tw7940257320238444675 : True := trivial
theorem main4.tw18098262787823149608 : True := trivial
theorem main4.tw1610747272404357743 : True := trivial
theorem main4.tw7010639025431483422 : True := trivial
theorem main4.tw1428783656833601146 : True := trivial
theorem main4.tw7622656190834817079 : True := trivial
theorem main4.tw9168924487666345353 : True := trivial
theorem main4.tw2369929134373749537 : True := trivial
theorem main4.tw6568133201985964721 : True := trivial
theorem main4.tw15477127915042793416 : True := trivial
theorem main4.tw7519460386906693762 : True := trivial
theorem main4.tw3539397977855391803 : True := trivial
theorem main4.tw15599969725554141592 : True := trivial
theorem main4.tw15879765918423809046 : True := trivial
theorem main4.tw13746910671135551076 : True := trivial
theorem main4.tw18002783637231253420 : True := trivial
theorem main4.tw17022237394400634300 : True := trivial
theorem main4.tw6242849889900853848 : True := trivial
theorem main4.tw7557790404348031689 : True := trivial
theorem main4.tw7598426093337930501 : True := trivial
theorem main4.tw9493685739017798570 : True := trivial
theorem main4.tw15446607104495223542 : True := trivial
theorem main4.tw16532823540034281937 : True := trivial
theorem main4.tw12057249053660568815 : True := trivial
theorem main4.tw16717760782233952974 : True := trivial
theorem main4.tw14042161271047784295 : True := trivial
theorem main4.tw13846820547895571313 : True := trivial
theorem main4.tw3857150567593612838 : True := trivial
theorem main4.tw14071234839433194625 : True := trivial
theorem main4.tw1978332114818442380 : True := trivial
theorem main4.tw11423429764480477299 : True := trivial
theorem main4.tw3355228088628279702 : True := trivial
theorem main4.tw10703907612911412057 : True := trivial
theorem main4.tw6078230951519307490 : True := trivial
theorem main4.tw6549606710493550184 : True := trivial
theorem main4.tw7261542545028740311 : True := trivial
theorem main4.tw9995556609973308162 : True := trivial
theorem main4.tw16795682510637523318 : True := trivial
theorem main4.tw15905006589243739609 : True := trivial
theorem main4.tw12138407108097685888 : True := trivial
theorem main4.tw14259526924822789156 : True := trivial
theorem main4.tw13482315295320327344 : True := trivial
theorem main4.tw12454594530488147483 : True := trivial
theorem main4.tw5728549444596134696 : True := trivial
theorem main4.tw7398364217786785425 : True := trivial
theorem main4.tw15934094594325687356 : True := trivial
theorem main4.tw44920825221902740 : True := trivial
theorem main4.tw1550147098340650855 : True := trivial
theorem main4.tw14473237324319290798 : True := trivial
theorem main4.tw10596080871472304889 : True := trivial
theorem main4.tw15005298613213842970 : True := trivial
theorem main4.tw10731175199222441919 : True := trivial
theorem main4.tw18298917713762523734 : True := trivial
theorem main4.tw4284686281203564529 : True := trivial
theorem main4.tw17819910107490181250 : True := trivial
theorem main4.tw8546026254880090121 : True := trivial
theorem main4.tw3200797593651282947 : True := trivial
theorem main4.tw4019907998597314071 : True := trivial
theorem main4.tw6992795506492434258 : True := trivial
theorem main4.tw12784263262396201542 : True := trivial
theorem main4.tw16752365418839668250 : True := trivial
theorem main4.tw2087727944913592846 : True := trivial
theorem main4.tw15089482844715121057 : True := trivial
theorem main4.tw2386093146375730475 : True := trivial
theorem main4.tw413793881699593568 : True := trivial
theorem main4.tw3398847919223156457 : True := trivial
theorem main4.tw15116389151924264299 : True := trivial
theorem main4.tw11099345959626942212 : True := trivial
theorem main4.tw15217421558965125971 : True := trivial
theorem main4.tw8319475587575297927 : True := trivial
theorem main4.tw2948393341329515554 : True := trivial
theorem main4.tw16205791340412645207 : True := trivial
theorem main4.tw214593610768767573 : True := trivial
theorem main4.tw11790444790099498664 : True := trivial
theorem main4.tw5014245547896891241 : True := trivial
theorem main4.tw14314639474460353938 : True := trivial
theorem main4.tw8289081094164289729 : True := trivial
theorem main4.tw25433580888628681 : True := trivial
theorem main4.tw5991061380065587910 : True := trivial
theorem main4.tw17013244826375609668 : True := trivial
theorem main4.tw16413065459705781453 : True := trivial
theorem main4.tw8558460549281538292 : True := trivial
theorem main4.tw15330220003242702964 : True := trivial
theorem main4.tw12767936050307259096 : True := trivial
theorem main4.tw3648281686747214085 : True := trivial
theorem main4.tw11805191081615231272 : True := trivial
theorem main4.tw3575646240812804713 : True := trivial
theorem main4.tw12206931474125790447 : True := trivial
theorem main4.tw6101133993270252464 : True := trivial
theorem main4.tw17334148938707259673 : True := trivial
theorem main4.tw15370952805912296978 : True := trivial
theorem main4.tw6680764097705319250 : True := trivial
theorem main4.tw11587434627465265579 : True := trivial
theorem main4.tw3383843584149820818 : True := trivial
theorem main4.tw621254069372639650 : True := trivial
theorem main4.tw15590821337781750450 : True := trivial
theorem main4.tw14804591780062120646 : True := trivial
theorem main4.tw10234029176852284507 : True := trivial
theorem main4.tw8979640540131932142 : True := trivial
theorem main4.tw6585850790351536238 : True := trivial
theorem main4.tw943829728591930975 : True := trivial
theorem main4.tw3682967204323730292 : True := trivial
theorem main4.tw15735797174562212463 : True := trivial
theorem main4.tw6121860954261531286 : True := trivial
theorem main4.tw14063600305183239818 : True := trivial
theorem main4.tw14104138666957190129 : True := trivial
theorem main4.tw7900849084382413834 : True := trivial
theorem main4.tw15394983388333812483 : True := trivial
theorem main4.tw11919596662266365868 : True := trivial
theorem main4.tw2646633234322909560 : True := trivial
theorem main4.tw8289779773914548791 : True := trivial
theorem main4.tw9884306272515029378 : True := trivial
theorem main4.tw17454045759356121741 : True := trivial
theorem main4.tw2568392758133544964 : True := trivial
theorem main4.tw550958554749780919 : True := trivial
theorem main4.tw7785934799952259790 : True := trivial
theorem main4.tw2178089461330862578 : True := trivial
theorem main4.tw8076570354913272085 : True := trivial
theorem main4.tw15637602469375698824 : True := trivial
theorem main4.tw18225896214529503686 : True := trivial
theorem main4.tw17028096865416448863 : True := trivial
theorem main4.tw17190178067453752118 : True := trivial
theorem main4.tw11636920700338000042 : True := trivial
theorem main4.tw2116415155370555479 : True := trivial
theorem main4.tw12436734119097742138 : True := trivial
theorem main4.tw8523893606545201729 : True := trivial
theorem main4.tw8212099375650465536 : True := trivial
theorem main4.tw8070757964933086057 : True := trivial
theorem main4.tw12096007763531481537 : True := trivial
theorem main4.tw3000481838037041195 : True := trivial
theorem main4.tw4512185616929410902 : True := trivial
theorem main4.tw6657595981476458295 : True := trivial
theorem main4.tw8881809957610664822 : True := trivial
theorem main4.tw9960760368290957475 : True := trivial
theorem main4.tw17865761472645168111 : True := trivial
theorem main4.tw6708337104741603313 : True := trivial
theorem main4.tw10750613795426177836 : True := trivial
theorem main4.tw10772879271294163662 : True := trivial
theorem main4.tw17138943233481839930 : True := trivial
theorem main4.tw11375861330769496110 : True := trivial
theorem main4.tw1961353430199642039 : True := trivial
theorem main4.tw9576386750198034462 : True := trivial
theorem main4.tw16292933959230444299 : True := trivial
theorem main4.tw17574657997120889093 : True := trivial
theorem main4.tw610003210212370219 : True := trivial
theorem main4.tw7008456487988767682 : True := trivial
theorem main4.tw4815904069023833876 : True := trivial
theorem main4.tw17626834180477849852 : True := trivial
theorem main4.tw7385081839469301622 : True := trivial
theorem main4.tw6305657789224871840 : True := trivial
theorem main4.tw4074948747406295527 : True := trivial
theorem main4.tw15254155680398248304 : True := trivial
theorem main4.tw4581930455125333239 : True := trivial
theorem main4.tw1099710303629593531 : True := trivial
theorem main4.tw3229889914855728333 : True := trivial
theorem main4.tw10273023747115349127 : True := trivial
theorem main4.tw15350068864238863753 : True := trivial
theorem main4.tw8651419067565760933 : True := trivial
theorem main4.tw426290942679430096 : True := trivial
theorem main4.tw6506884395769148687 : True := trivial
theorem main4.tw2174969431515337378 : True := trivial
theorem main4.tw12822134802872942281 : True := trivial
theorem main4.tw1139999256938030278 : True := trivial
theorem main4.tw13902413091847445716 : True := trivial
theorem main4.tw5800916986750190819 : True := trivial
theorem main4.tw16477434839674197162 : True := trivial
theorem main4.tw9044451356432230243 : True := trivial
theorem main4.tw17894207221212103127 : True := trivial
theorem main4.tw16477748210649750778 : True := trivial
theorem main4.tw15481107739544683994 : True := trivial
theorem main4.tw17422587202341658426 : True := trivial
theorem main4.tw14985755730274956757 : True := trivial
theorem main4.tw12366402396766508291 : True := trivial
theorem main4.tw14878597869993290803 : True := trivial
theorem main4.tw2049386268898278260 : True := trivial
theorem main4.tw10155225940777222707 : True := trivial
theorem main4.tw5879910591330522462 : True := trivial
theorem main4.tw18333509827558974292 : True := trivial
theorem main4.tw15251062621941082947 : True := trivial
theorem main4.tw18357314706916817236 : True := trivial
theorem main4.tw17521718744532746742 : True := trivial
theorem main4.tw10158491250679732099 : True := trivial
theorem main4.tw18240607597691723571 : True := trivial
theorem main4.tw11699089645421227562 : True := trivial
theorem main4.tw2597153934626979742 : True := trivial
theorem main4.tw9857271625286972155 : True := trivial
theorem main4.tw10402758953369913696 : True := trivial
theorem main4.tw17924471680744948442 : True := trivial
theorem main4.tw9690388188055382930 : True := trivial
theorem main4.tw12345925775029373211 : True := trivial
theorem main4.tw18338009578941800720 : True := trivial
theorem main4.tw821240754542567384 : True := trivial
theorem main4.tw6279831924862018926 : True := trivial
theorem main4.tw8527384243990933396 : True := trivial
theorem main4.tw4442013429076061763 : True := trivial
theorem main4.tw8159870389663149525 : True := trivial
theorem main4.tw6815058519298792163 : True := trivial
theorem main4.tw378014317595038290 : True := trivial
theorem main4.tw11215417471337362264 : True := trivial
theorem main4.tw392547457721753556 : True := trivial
theorem main4.tw11856666858492744875 : True := trivial
theorem main4.tw2525520653502966987 : True := trivial
theorem main4.tw12191614464038710185 : True := trivial
theorem main4.tw17950684876096152045 : True := trivial
theorem main4.tw8025597520681454 : True := trivial
theorem main4.tw5110615428940689193 : True := trivial
theorem main4.tw5436195924733176034 : True := trivial
theorem main4.tw17713126746360493910 : True := trivial
theorem main4.tw12439388635133891118 : True := trivial
theorem main4.tw7898251112696245674 : True := trivial
theorem main4.tw410322755854719228 : True := trivial
theorem main4.tw12327689111054177088 : True := trivial
theorem main4.tw17899776129896892906 : True := trivial
theorem main4.tw15984454621110062158 : True := trivial
theorem main4.tw1464012598241856760 : True := trivial
theorem main4.tw3276773801386765068 : True := trivial
theorem main4.tw2836650560523509783 : True := trivial
theorem main4.tw9851353864219625431 : True := trivial
theorem main4.tw13115723045216394503 : True := trivial
theorem main4.tw17179501205022550420 : True := trivial
theorem main4.tw17985168405030955527 : True := trivial
theorem main4.tw2038397680687100435 : True := trivial
theorem main4.tw14907318486375550376 : True := trivial
theorem main4.tw16943189751567198379 : True := trivial
theorem main4.tw8714390264368946340 : True := trivial
theorem main4.tw11484435457418976824 : True := trivial
theorem main4.tw13510994189116407322 : True := trivial
theorem main4.tw11331240699544465107 : True := trivial
theorem main4.tw1958043091092792751 : True := trivial
theorem main4.tw3724091425220115459 : True := trivial
theorem main4.tw12410987088358083911 : True := trivial
theorem main4.tw8751177524386073413 : True := trivial
theorem main4.tw4624990570990212587 : True := trivial
theorem main4.tw857525289645943724 : True := trivial
theorem main4.tw4496696125132380147 : True := trivial
theorem main4.tw6440396369850928691 : True := trivial
theorem main4.tw4552599196130151866 : True := trivial
theorem main4.tw11710942695523067849 : True := trivial
theorem main4.tw15538909640796748579 : True := trivial
theorem main4.tw1325263852850963602 : True := trivial
theorem main4.tw9742483903217394596 : True := trivial
theorem main4.tw186914525778528148 : True := trivial
theorem main4.tw3742989888693876056 : True := trivial
theorem main4.tw3694816450561636417 : True := trivial
theorem main4.tw14451253294222703738 : True := trivial
theorem main4.tw8952061573848049061 : True := trivial
theorem main4.tw14133934878621476948 : True := trivial
theorem main4.tw10732068154001917875 : True := trivial
theorem main4.tw11261576791899689380 : True := trivial
theorem main4.tw4443783507638243909 : True := trivial
theorem main4.tw1730516185141485903 : True := trivial
theorem main4.tw14552481518112254770 : True := trivial
theorem main4.tw1513245749058954611 : True := trivial
theorem main4.tw1645424744936181158 : True := trivial
theorem main4.tw16374903664384867796 : True := trivial
theorem main4.tw5518616399375695366 : True := trivial
theorem main4.tw15178801584729821932 : True := trivial
theorem main4.tw16283999317999423787 : True := trivial
theorem main4.tw17297737654668071508 : True := trivial
theorem main4.tw16740285253332477082 : True := trivial
theorem main4.tw12567903707072998821 : True := trivial
theorem main4.tw12185606476808652245 : True := trivial
theorem main4.tw579294639761333312 : True := trivial
theorem main4.tw6190639853745788618 : True := trivial
theorem main4.tw13004491474574493744 : True := trivial
theorem main4.tw852421142053646568 : True := trivial
theorem main4.tw8655969545593653377 : True := trivial
theorem main4.tw8806732156521307464 : True := trivial
theorem main4.tw10341385961668640614 : True := trivial
theorem main4.tw13943252359102434799 : True := trivial
theorem main4.tw7998617970381150508 : True := trivial
theorem main4.tw18243938942524387676 : True := trivial
theorem main4.tw8421166767706367614 : True := trivial
theorem main4.tw6729090278955691973 : True := trivial
theorem main4.tw14189772730095746631 : True := trivial
theorem main4.tw13650783454807012453 : True := trivial
theorem main4.tw10756162834260154641 : True := trivial
theorem main4.tw9603334797752740840 : True := trivial
theorem main4.tw2844959045053301506 : True := trivial
theorem main4.tw6502835197465803592 : True := trivial
theorem main4.tw2574500950216869316 : True := trivial
theorem main4.tw16151119189691836626 : True := trivial
theorem main4.tw5615473142091075494 : True := trivial
theorem main4.tw17089134720760126160 : True := trivial
theorem main4.tw1085663265953454023 : True := trivial
theorem main4.tw13715916660089686173 : True := trivial
theorem main4.tw9648881721388496378 : True := trivial
theorem main4.tw16978838347781064773 : True := trivial
theorem main4.tw15744347749978034525 : True := trivial
theorem main4.tw14354083903297178035 : True := trivial
theorem main4.tw10284956856751507692 : True := trivial
theorem main4.tw10398852712561159748 : True := trivial
theorem main4.tw18405091443668052468 : True := trivial
theorem main4.tw8946204918119270101 : True := trivial
theorem main4.tw17191211926648071832 : True := trivial
theorem main4.tw6432426700482897685 : True := trivial
theorem main4.tw14157707583658644019 : True := trivial
theorem main4.tw12312527887141197137 : True := trivial
theorem main4.tw3536792290163046842 : True := trivial
theorem main4.tw17862142284644067969 : True := trivial
theorem main4.tw11083827048899661751 : True := trivial
theorem main4.tw11801380996891859912 : True := trivial
theorem main4.tw8252319775179079934 : True := trivial
theorem main4.tw9866709304894114717 : True := trivial
theorem main4.tw17884823668413261843 : True := trivial
theorem main4.tw6306872495138135152 : True := trivial
theorem main4.tw7794568289201787003 : True := trivial
theorem main4.tw5797485277651500497 : True := trivial
theorem main4.tw11204029568331147248 : True := trivial
theorem main4.tw1652681780608852425 : True := trivial
theorem main4.tw3778864577533457681 : True := trivial
theorem main4.tw10295411677655965065 : True := trivial
theorem main4.tw3527774740220512188 : True := trivial
theorem main4.tw5495682342253606664 : True := trivial
theorem main4.tw9758267797826207448 : True := trivial
theorem main4.tw2605295828860993152 : True := trivial
theorem main4.tw3946730031220479245 : True := trivial
theorem main4.tw9672139494855204401 : True := trivial
theorem main4.tw5467732363578497429 : True := trivial
theorem main4.tw14229860527441603274 : True := trivial
theorem main4.tw12063593849551899235 : True := trivial
theorem main4.tw9307279833765628190 : True := trivial
theorem main4.tw126460517208600720 : True := trivial
theorem main4.tw9550037195551122100 : True := trivial
theorem main4.tw8871648102790198112 : True := trivial
theorem main4.tw2969494006922166631 : True := trivial
theorem main4.tw6591930071083599049 : True := trivial
theorem main4.tw4930543179018443051 : True := trivial
theorem main4.tw14827609237524426301 : True := trivial
theorem main4.tw6582765978370619818 : True := trivial
theorem main4.tw12138473309441837287 : True := trivial
theorem main4.tw1795609796899266598 : True := trivial
theorem main4.tw2294338983368725736 : True := trivial
theorem main4.tw12396782452770036487 : True := trivial
theorem main4.tw15987305076774811641 : True := trivial
theorem main4.tw12999757201322816764 : True := trivial
theorem main4.tw62831029552173865 : True := trivial
theorem main4.tw11591250654091123019 : True := trivial
theorem main4.tw17018487873688319929 : True := trivial
theorem main4.tw14385979621191881464 : True := trivial
theorem main4.tw10900358600651844581 : True := trivial
theorem main4.tw17621976997514293562 : True := trivial
theorem main4.tw18116710651361806287 : True := trivial
theorem main4.tw2898460286413148106 : True := trivial
theorem main4.tw3516813388242448210 : True := trivial
theorem main4.tw14863349453976362526 : True := trivial
theorem main4.tw1599090247180846147 : True := trivial
theorem main4.tw15360364135566357493 : True := trivial
theorem main4.tw16271643055849544339 : True := trivial
theorem main4.tw4378154097222819180 : True := trivial
theorem main4.tw10619118860902821350 : True := trivial
theorem main4.tw5471595173237206812 : True := trivial
theorem main4.tw3466119747709319444 : True := trivial
theorem main4.tw7004621229856363677 : True := trivial
theorem main4.tw10456795585416413424 : True := trivial
theorem main4.tw12625788461206633990 : True := trivial
theorem main4.tw3696696562837813212 : True := trivial
theorem main4.tw18437519517351773607 : True := trivial
theorem main4.tw4899735860004221123 : True := trivial
theorem main4.tw2303245171088350625 : True := trivial
theorem main4.tw14233484984594852330 : True := trivial
theorem main4.tw1891982951191119420 : True := trivial
theorem main4.tw15903888746020587779 : True := trivial
theorem main4.tw10747645151140933977 : True := trivial
theorem main4.tw9698493373976869080 : True := trivial
theorem main4.tw17254343828572828405 : True := trivial
theorem main4.tw402192458747986890 : True := trivial
theorem main4.tw2825532160359529561 : True := trivial
theorem main4.tw2479000913656531596 : True := trivial
theorem main4.tw4669611686282059931 : True := trivial
theorem main4.tw15027121319335004344 : True := trivial
theorem main4.tw4572987782360747078 : True := trivial
theorem main4.tw929867995227010684 : True := trivial
theorem main4.tw1629521662026961051 : True := trivial
theorem main4.tw4205674947073960963 : True := trivial
theorem main4.tw14273014873338046495 : True := trivial
theorem main4.tw6810420482954395141 : True := trivial
theorem main4.tw16794625593341511126 : True := trivial
theorem main4.tw3084705658623160869 : True := trivial
theorem main4.tw2536403303462280363 : True := trivial
theorem main4.tw2734699285622965042 : True := trivial
theorem main4.tw5150607881431337641 : True := trivial
theorem main4.tw9081943935934725422 : True := trivial
theorem main4.tw3275226301751233389 : True := trivial
theorem main4.tw2863555511700089611 : True := trivial
theorem main4.tw8776415995876022691 : True := trivial
theorem main4.tw15397675122426840999 : True := trivial
theorem main4.tw4937110395664193223 : True := trivial
theorem main4.tw15920631389133266593 : True := trivial
theorem main4.tw7489044586999345800 : True := trivial
theorem main4.tw4681031562883362107 : True := trivial
theorem main4.tw6967829710545752897 : True := trivial
theorem main4.tw10787341419478872529 : True := trivial
theorem main4.tw14562908043441169104 : True := trivial
theorem main4.tw15289234345419994028 : True := trivial
theorem main4.tw2394997698596119507 : True := trivial
theorem main4.tw11757336116346015504 : True := trivial
theorem main4.tw6337686905589581305 : True := trivial
theorem main4.tw12529250314028428657 : True := trivial
theorem main4.tw9430729763296540645 : True := trivial
theorem main4.tw2325201883887827533 : True := trivial
theorem main4.tw904910974630648337 : True := trivial
theorem main4.tw14981353718363852193 : True := trivial
theorem main4.tw16559681977271904256 : True := trivial
theorem main4.tw12143278836445543059 : True := trivial
theorem main4.tw10690426584418033519 : True := trivial
theorem main4.tw2801124679193346783 : True := trivial
theorem main4.tw17148341410166389364 : True := trivial
theorem main4.tw683346170613870649 : True := trivial
theorem main4.tw12853885886830991737 : True := trivial
theorem main4.tw14892488410734544177 : True := trivial
theorem main4.tw18044302769431574659 : True := trivial
theorem main4.tw777668704183985187 : True := trivial
theorem main4.tw11399213892348335494 : True := trivial
theorem main4.tw5480638730666227711 : True := trivial
theorem main4.tw2184687983142556783 : True := trivial
theorem main4.tw2245101735946318903 : True := trivial
theorem main4.tw11928380122287085326 : True := trivial
theorem main4.tw3011733005175319437 : True := trivial
theorem main4.tw3450214133947351956 : True := trivial
theorem main4.tw5847508217545432337 : True := trivial
theorem main4.tw12078645419792857554 : True := trivial
theorem main4.tw15131795143190623427 : True := trivial
theorem main4.tw15359839392858139457 : True := trivial
theorem main4.tw18437367079172281276 : True := trivial
theorem main4.tw11691871110871715790 : True := trivial
theorem main4.tw4638600085337390300 : True := trivial
theorem main4.tw186825100490216978 : True := trivial
theorem main4.tw13053728232448274994 : True := trivial
theorem main4.tw6350491311347651047 : True := trivial
theorem main4.tw17937192796598359607 : True := trivial
theorem main4.tw12426117209167900206 : True := trivial
theorem main4.tw10302414760510081981 : True := trivial
theorem main4.tw1563847826666747500 : True := trivial
theorem main4.tw11090706008168162285 : True := trivial
theorem main4.tw18428884951628172806 : True := trivial
theorem main4.tw13636483705651017424 : True := trivial
theorem main4.tw14825909394046210942 : True := trivial
theorem main4.tw13663391626864190493 : True := trivial
theorem main4.tw2560624162275580906 : True := trivial
theorem main4.tw12544895685133648561 : True := trivial
theorem main4.tw5899093616931143488 : True := trivial
theorem main4.tw9235114850459291254 : True := trivial
theorem main4.tw296144894288258871 : True := trivial
theorem main4.tw16043729502479923471 : True := trivial
theorem main4.tw2384644377626906940 : True := trivial
theorem main4.tw9692740879622422830 : True := trivial
theorem main4.tw2960534365805710040 : True := trivial
theorem main4.tw6740218621629494337 : True := trivial
theorem main4.tw1971466182389472625 : True := trivial
theorem main4.tw2432996833942212917 : True := trivial
theorem main4.tw17197865555258172300 : True := trivial
theorem main4.tw10564942520302301447 : True := trivial
theorem main4.tw6030364073492609437 : True := trivial
theorem main4.tw14475794026615775142 : True := trivial
theorem main4.tw11006906637127376265 : True := trivial
theorem main4.tw18293964417359732089 : True := trivial
theorem main4.tw9022964317647755762 : True := trivial
theorem main4.tw2568571933543791185 : True := trivial
theorem main4.tw2762655297356215839 : True := trivial
theorem main4.tw6839616445117249303 : True := trivial
theorem main4.tw7323328366507270989 : True := trivial
theorem main4.tw4946904138096501107 : True := trivial
theorem main4.tw7017406051673021548 : True := trivial
theorem main4.tw14525421217343414790 : True := trivial
theorem main4.tw11859653712384490119 : True := trivial
theorem main4.tw10386042692225568812 : True := trivial
theorem main4.tw7139641314062793415 : True := trivial
theorem main4.tw2527339961180807961 : True := trivial
theorem main4.tw6847193205919604320 : True := trivial
theorem main4.tw11114105794707789492 : True := trivial
theorem main4.tw7524641567567959797 : True := trivial
theorem main4.tw962440518930942419 : True := trivial
theorem main4.tw15138640743968999717 : True := trivial
theorem main4.tw7805004777172611866 : True := trivial
theorem main4.tw8185152225646357559 : True := trivial
theorem main4.tw15756408807224541548 : True := trivial
theorem main4.tw18099961268384850076 : True := trivial
theorem main4.tw872496859586935431 : True := trivial
theorem main4.tw15968980002537471020 : True := trivial
theorem main4.tw13241464301856838223 : True := trivial
theorem main4.tw16370117149805058724 : True := trivial
theorem main4.tw6243550438615522512 : True := trivial
theorem main4.tw16473268106077157487 : True := trivial
theorem main4.tw7253643173498668428 : True := trivial
theorem main4.tw5600726695093500987 : True := trivial
theorem main4.tw949024944010635306 : True := trivial
theorem main4.tw11897166152805656631 : True := trivial
theorem main4.tw13547076665040055845 : True := trivial
theorem main4.tw6791313910223081983 : True := trivial
theorem main4.tw8595038348237358107 : True := trivial
theorem main4.tw8264658917923595227 : True := trivial
theorem main4.tw7236889508228738710 : True := trivial
theorem main4.tw9511262786676563355 : True := trivial
theorem main4.tw6186053316452863238 : True := trivial
theorem main4.tw11352339053010194654 : True := trivial
theorem main4.tw11489678113145763410 : True := trivial
theorem main4.tw4092491978315381584 : True := trivial
theorem main4.tw10027346632469805 : True := trivial
theorem main4.tw15793529296064496797 : True := trivial
theorem main4.tw13003943092868221093 : True := trivial
theorem main4.tw8826453620566337654 : True := trivial
theorem main4.tw4565021875958404970 : True := trivial
theorem main4.tw12092044686844430195 : True := trivial
theorem main4.tw10379634971748332157 : True := trivial
theorem main4.tw2205058994637195186 : True := trivial
theorem main4.tw11601529618167884180 : True := trivial
theorem main4.tw6600222336750292840 : True := trivial
theorem main4.tw13736192490803665198 : True := trivial
theorem main4.tw4241013530182997475 : True := trivial
theorem main4.tw463836049137946210 : True := trivial
theorem main4.tw363269060593611064 : True := trivial
theorem main4.tw5806002101253596922 : True := trivial
theorem main4.tw5467411483052614237 : True := trivial
theorem main4.tw18367104593329914820 : True := trivial
theorem main4.tw12879026740056238305 : True := trivial
theorem main4.tw5670647520143591739 : True := trivial
theorem main4.tw8119959738080310131 : True := trivial
theorem main4.tw11126129314036583760 : True := trivial
theorem main4.tw2201335310100573420 : True := trivial
theorem main4.tw3373263620954544620 : True := trivial
theorem main4.tw7571323060579504881 : True := trivial
theorem main4.tw5693058120261110732 : True := trivial
theorem main4.tw8287477863179142502 : True := trivial
theorem main4.tw8009787930164544750 : True := trivial
theorem main4.tw17233256937919939786 : True := trivial
theorem main4.tw4643678681762044745 : True := trivial
theorem main4.tw18085237302686719876 : True := trivial
theorem main4.tw10398886831432677560 : True := trivial
theorem main4.tw15022271180688100032 : True := trivial
theorem main4.tw17199009401875621392 : True := trivial
theorem main4.tw10878628650806330630 : True := trivial
theorem main4.tw15264811420143146722 : True := trivial
theorem main4.tw14457812476889471168 : True := trivial
theorem main4.tw1343370053225105439 : True := trivial
theorem main4.tw3935686821042404358 : True := trivial
theorem main4.tw11180299838775028976 : True := trivial
theorem main4.tw312294636155387037 : True := trivial
theorem main4.tw9973806493112774530 : True := trivial
theorem main4.tw15684257169153025463 : True := trivial
theorem main4.tw10438236188465018603 : True := trivial
theorem main4.tw10283936682685908046 : True := trivial
theorem main4.tw1657744889348260470 : True := trivial
theorem main4.tw17366095932765671356 : True := trivial
theorem main4.tw10293123716035699279 : True := trivial
theorem main4.tw3287481231366067360 : True := trivial
theorem main4.tw15037185860938173115 : True := trivial
theorem main4.tw9757321505604853886 : True := trivial
theorem main4.tw14334319769636042215 : True := trivial
theorem main4.tw15699579084226129741 : True := trivial
theorem main4.tw7971644147139812822 : True := trivial
theorem main4.tw2201499220703258023 : True := trivial
theorem main4.tw9771860814122272892 : True := trivial
theorem main4.tw7311290305599387082 : True := trivial
theorem main4.tw6810015067536055333 : True := trivial
theorem main4.tw14980990382621527251 : True := trivial
theorem main4.tw6558081643806128805 : True := trivial
theorem main4.tw134575597347834304 : True := trivial
theorem main4.tw15666850441674875989 : True := trivial
theorem main4.tw5145681082854102282 : True := trivial
theorem main4.tw731313949708424061 : True := trivial
theorem main4.tw15237950790890301323 : True := trivial
theorem main4.tw4956669475491158917 : True := trivial
theorem main4.tw1428380628792360930 : True := trivial
theorem main4.tw7841504111495419880 : True := trivial
theorem main4.tw2398706970571227883 : True := trivial
theorem main4.tw7000021062405452605 : True := trivial
theorem main4.tw1755527282172680584 : True := trivial
theorem main4.tw17838424569870707715 : True := trivial
theorem main4.tw17116540143887828511 : True := trivial
theorem main4.tw2273320914261141308 : True := trivial
theorem main4.tw5179400575776169016 : True := trivial
theorem main4.tw11799258256636214025 : True := trivial
theorem main4.tw12474628150041266591 : True := trivial
theorem main4.tw12119027949120208253 : True := trivial
theorem main4.tw6773072572371052798 : True := trivial
theorem main4.tw12927296542372196630 : True := trivial
theorem main4.tw2874999673992742134 : True := trivial
theorem main4.tw17783425621965331090 : True := trivial
theorem main4.tw15898928067769109774 : True := trivial
theorem main4.tw12848612297938111337 : True := trivial
theorem main4.tw3936584470767005227 : True := trivial
theorem main4.tw7203328703041283419 : True := trivial
theorem main4.tw8181862113577872278 : True := trivial
theorem main4.tw6822871336687242631 : True := trivial
theorem main4.tw6967395493612096134 : True := trivial
theorem main4.tw2167063895522378648 : True := trivial
theorem main4.tw16845719011208962373 : True := trivial
theorem main4.tw17459746685387021987 : True := trivial
theorem main4.tw5501957808491744852 : True := trivial
theorem main4.tw2594914378838330445 : True := trivial
theorem main4.tw12297224398157542230 : True := trivial
theorem main4.tw3063740126919796901 : True := trivial
theorem main4.tw12661599521796495552 : True := trivial
theorem main4.tw496721675511181878 : True := trivial
theorem main4.tw4717137667466414156 : True := trivial
theorem main4.tw10364038910914996095 : True := trivial
theorem main4.tw3259952069389783984 : True := trivial
theorem main4.tw16921281805344992430 : True := trivial
theorem main4.tw12102191861211377355 : True := trivial
theorem main4.tw17214177355055935391 : True := trivial
theorem main4.tw14219901895421884420 : True := trivial
theorem main4.tw17985053421135289481 : True := trivial
theorem main4.tw14212405362377982710 : True := trivial
theorem main4.tw351170627502583498 : True := trivial
theorem main4.tw723639877033291275 : True := trivial
theorem main4.tw11653226529009023582 : True := trivial
theorem main4.tw2684251092734470323 : True := trivial
theorem main4.tw14636888407737409784 : True := trivial
theorem main4.tw6308945289102161060 : True := trivial
theorem main4.tw17381152096896415312 : True := trivial
theorem main4.tw6703401145063958590 : True := trivial
theorem main4.tw3346873478447274202 : True := trivial
theorem main4.tw17863028518946837171 : True := trivial
theorem main4.tw586525453263823088 : True := trivial
theorem main4.tw15996007616349930782 : True := trivial
theorem main4.tw14762486589676100238 : True := trivial
theorem main4.tw13255287931770196733 : True := trivial
theorem main4.tw11395075919960316619 : True := trivial
theorem main4.tw7302240380765036458 : True := trivial
theorem main4.tw15940197706187031800 : True := trivial
theorem main4.tw15595586610239169760 : True := trivial
theorem main4.tw12431244728706852595 : True := trivial
theorem main4.tw14282253515385861165 : True := trivial
theorem main4.tw15229811802794425964 : True := trivial
theorem main4.tw13780569081623216165 : True := trivial
theorem main4.tw1987961791949881537 : True := trivial
theorem main4.tw9617407287183872573 : True := trivial
theorem main4.tw11593198452924109334 : True := trivial
theorem main4.tw8114752759325908798 : True := trivial
theorem main4.tw7365537168597540611 : True := trivial
theorem main4.tw10730108699202354862 : True := trivial
theorem main4.tw721623696041503233 : True := trivial
theorem main4.tw1741839975781282651 : True := trivial
theorem main4.tw17161360944107769203 : True := trivial
theorem main4.tw14766904685107346952 : True := trivial
theorem main4.tw35111047694445915 : True := trivial
theorem main4.tw13195660865540679774 : True := trivial
theorem main4.tw15626774929834300671 : True := trivial
theorem main4.tw13005961532098209111 : True := trivial
theorem main4.tw18023865123055690988 : True := trivial
theorem main4.tw6450851065792828596 : True := trivial
theorem main4.tw8973014043346102501 : True := trivial
theorem main4.tw10719780411948067804 : True := trivial
theorem main4.tw13125310983359040498 : True := trivial
theorem main4.tw2877544246311297451 : True := trivial
theorem main4.tw14739841628592617430 : True := trivial
theorem main4.tw18241170564446578741 : True := trivial
theorem main4.tw2911334548617876180 : True := trivial
theorem main4.tw17036706383756477545 : True := trivial
theorem main4.tw17302088519508034713 : True := trivial
theorem main4.tw14794408801299191850 : True := trivial
theorem main4.tw11054475333789243208 : True := trivial
theorem main4.tw1795390737120133928 : True := trivial
theorem main4.tw3660943724925046029 : True := trivial
theorem main4.tw245357100408041539 : True := trivial
theorem main4.tw13910771516376786363 : True := trivial
theorem main4.tw9138242698622031382 : True := trivial
theorem main4.tw14789964044577775975 : True := trivial
theorem main4.tw16159820667418241640 : True := trivial
theorem main4.tw3995479919771439498 : True := trivial
theorem main4.tw18231665139719147773 : True := trivial
theorem main4.tw6025348875867271249 : True := trivial
theorem main4.tw15855527985090193542 : True := trivial
theorem main4.tw5881485085611176812 : True := trivial
theorem main4.tw516117617300076555 : True := trivial
theorem main4.tw9628129787832989014 : True := trivial
theorem main4.tw13457474831999014206 : True := trivial
theorem main4.tw2903388168910758732 : True := trivial
theorem main4.tw16770121169531129338 : True := trivial
theorem main4.tw12044716248254947348 : True := trivial
theorem main4.tw12673205027793501045 : True := trivial
theorem main4.tw2112369220690024240 : True := trivial
theorem main4.tw13167955980728903195 : True := trivial
theorem main4.tw17035944359120858770 : True := trivial
theorem main4.tw18445300507878433026 : True := trivial
theorem main4.tw12137769261010546431 : True := trivial
theorem main4.tw8954219903048177303 : True := trivial
theorem main4.tw5566905913866467137 : True := trivial
theorem main4.tw4105780122949795276 : True := trivial
theorem main4.tw6577734369908674794 : True := trivial
theorem main4.tw13642544052277087778 : True := trivial
theorem main4.tw4235259446944207613 : True := trivial
theorem main4.tw1211397273734557336 : True := trivial
theorem main4.tw5431335621047988281 : True := trivial
theorem main4.tw12801595131823468085 : True := trivial
theorem main4.tw185946207579271707 : True := trivial
theorem main4.tw12827761264690345795 : True := trivial
theorem main4.tw10053584720245326660 : True := trivial
theorem main4.tw1645899322512436059 : True := trivial
theorem main4.tw6455974295225876435 : True := trivial
theorem main4.tw12708085044408839750 : True := trivial
theorem main4.tw8914752004780354282 : True := trivial
theorem main4.tw7721496322457344388 : True := trivial
theorem main4.tw13099143334763556492 : True := trivial
theorem main4.tw12665090846810026166 : True := trivial
theorem main4.tw4353455046186879595 : True := trivial
theorem main4.tw16397475917593666686 : True := trivial
theorem main4.tw12414244536579564740 : True := trivial
theorem main4.tw15019920577500057729 : True := trivial
theorem main4.tw75617840528708696 : True := trivial
theorem main4.tw11805946333970962434 : True := trivial
theorem main4.tw10074778930884538656 : True := trivial
theorem main4.tw12126108392943898909 : True := trivial
theorem main4.tw18334444309933957763 : True := trivial
theorem main4.tw3697546588531685063 : True := trivial
theorem main4.tw14742953986550353341 : True := trivial
theorem main4.tw17560199222126855405 : True := trivial
theorem main4.tw14429034774833130507 : True := trivial
theorem main4.tw3077308263766074642 : True := trivial
theorem main4.tw1615562961148978654 : True := trivial
theorem main4.tw13768797577974010145 : True := trivial
theorem main4.tw4713864289925532830 : True := trivial
theorem main4.tw2059773340511863651 : True := trivial
theorem main4.tw3469881318524278555 : True := trivial
theorem main4.tw12309520943434999840 : True := trivial
theorem main4.tw568269539109612725 : True := trivial
theorem main4.tw10535379649717887794 : True := trivial
theorem main4.tw1054108894722086083 : True := trivial
theorem main4.tw15386585339213028579 : True := trivial
theorem main4.tw7195771711755343016 : True := trivial
theorem main4.tw8761543960544318528 : True := trivial
theorem main4.tw17261791511578579085 : True := trivial
theorem main4.tw15051716762850508403 : True := trivial
theorem main4.tw17367441256952912253 : True := trivial
theorem main4.tw15279672089576635029 : True := trivial
theorem main4.tw12574140780342396641 : True := trivial
theorem main4.tw12181210358869178609 : True := trivial
theorem main4.tw5142825952870717793 : True := trivial
theorem main4.tw13099442267755443980 : True := trivial
theorem main4.tw11073182373922775836 : True := trivial
theorem main4.tw16260969425446336357 : True := trivial
theorem main4.tw1348646683151340443 : True := trivial
theorem main4.tw9243389937172363487 : True := trivial
theorem main4.tw8278646223317203985 : True := trivial
theorem main4.tw10129310555569152824 : True := trivial
theorem main4.tw17255089512257976594 : True := trivial
theorem main4.tw1346295545201828613 : True := trivial
theorem main4.tw6243521897558304005 : True := trivial
theorem main4.tw16589423812347524731 : True := trivial
theorem main4.tw12685713594180628676 : True := trivial
theorem main4.tw6453233514373680086 : True := trivial
theorem main4.tw15666710087050105209 : True := trivial
theorem main4.tw10317622976526824137 : True := trivial
theorem main4.tw4529119332282567191 : True := trivial
theorem main4.tw5110910763026293930 : True := trivial
theorem main4.tw9794789252747113349 : True := trivial
theorem main4.tw7172201275730203254 : True := trivial
theorem main4.tw18049072331039049037 : True := trivial
theorem main4.tw17926744971103315447 : True := trivial
theorem main4.tw17577009745448875210 : True := trivial
theorem main4.tw16569348410028537485 : True := trivial
theorem main4.tw6042248497929873296 : True := trivial
theorem main4.tw16249093920880910497 : True := trivial
theorem main4.tw14961355828089714075 : True := trivial
theorem main4.tw6278472483696027291 : True := trivial
theorem main4.tw10453375864064713883 : True := trivial
theorem main4.tw6383566828540242983 : True := trivial
theorem main4.tw17199824381338416942 : True := trivial
theorem main4.tw16703667545280835146 : True := trivial
theorem main4.tw3526333930494141186 : True := trivial
theorem main4.tw3383355397584870299 : True := trivial
theorem main4.tw4270628436240510485 : True := trivial
theorem main4.tw2969825320596337343 : True := trivial
theorem main4.tw8415474209554209765 : True := trivial
theorem main4.tw5548591651536247497 : True := trivial
theorem main4.tw8578468423630802429 : True := trivial
theorem main4.tw5084374310534728484 : True := trivial
theorem main4.tw13720830640945086875 : True := trivial
theorem main4.tw15933094310016805687 : True := trivial
theorem main4.tw9829977671064419069 : True := trivial
theorem main4.tw14227040279693558049 : True := trivial
theorem main4.tw14432701865473179542 : True := trivial
theorem main4.tw3194338115322151359 : True := trivial
theorem main4.tw6703825289750771409 : True := trivial
theorem main4.tw10469842811847405707 : True := trivial
theorem main4.tw355284745502615303 : True := trivial
theorem main4.tw3289360580751996212 : True := trivial
theorem main4.tw2568272111076804021 : True := trivial
theorem main4.tw13619689323606640814 : True := trivial
theorem main4.tw629945439747810963 : True := trivial
theorem main4.tw11091148674381545442 : True := trivial
theorem main4.tw10503131634183122069 : True := trivial
theorem main4.tw14472373061031898013 : True := trivial
theorem main4.tw14139372145111590988 : True := trivial
theorem main4.tw6625241839346934884 : True := trivial
theorem main4.tw5825355588372635252 : True := trivial
theorem main4.tw15017643374004151024 : True := trivial
theorem main4.tw4129608296625809126 : True := trivial
theorem main4.tw2353791723182032252 : True := trivial
theorem main4.tw872374569267330442 : True := trivial
theorem main4.tw16953439628520929261 : True := trivial
theorem main4.tw11117849097145721346 : True := trivial
theorem main4.tw18437995403641320247 : True := trivial
theorem main4.tw13182033316459059637 : True := trivial
theorem main4.tw2144692634982908788 : True := trivial
theorem main4.tw11142056529844448039 : True := trivial
theorem main4.tw17543848646187581104 : True := trivial
theorem main4.tw1500093382046759783 : True := trivial
theorem main4.tw16049895018927514324 : True := trivial
theorem main4.tw10594721509449113675 : True := trivial
theorem main4.tw15088298093176313698 : True := trivial
theorem main4.tw10311033418586664282 : True := trivial
theorem main4.tw762530681768892185 : True := trivial
theorem main4.tw16258577960054891289 : True := trivial
theorem main4.tw6633232724636619068 : True := trivial
theorem main4.tw11141221353591047711 : True := trivial
theorem main4.tw7910209240286273766 : True := trivial
theorem main4.tw14494368751987865362 : True := trivial
theorem main4.tw18337845219895422615 : True := trivial
theorem main4.tw7767023669239867556 : True := trivial
theorem main4.tw10016886699977059636 : True := trivial
theorem main4.tw10904149269567445230 : True := trivial
theorem main4.tw5357300286891077739 : True := trivial
theorem main4.tw9339445897073735443 : True := trivial
theorem main4.tw270303831920907653 : True := trivial
theorem main4.tw10344083824231320326 : True := trivial
theorem main4.tw14972204446555098236 : True := trivial
theorem main4.tw7982173069844096973 : True := trivial
theorem main4.tw719303650525856579 : True := trivial
theorem main4.tw10474906857848415215 : True := trivial
theorem main4.tw5646735291233175763 : True := trivial
theorem main4.tw6268922248170939745 : True := trivial
theorem main4.tw4339829172134874614 : True := trivial
theorem main4.tw11024695896545793557 : True := trivial
theorem main4.tw2922906853326263161 : True := trivial
theorem main4.tw3217562523398159931 : True := trivial
theorem main4.tw15990473321531637204 : True := trivial
theorem main4.tw2057586622861188660 : True := trivial
theorem main4.tw6252192615103264198 : True := trivial
theorem main4.tw8063007231722792320 : True := trivial
theorem main4.tw7471628587388539899 : True := trivial
theorem main4.tw7096911527128307179 : True := trivial
theorem main4.tw12349323208475310685 : True := trivial
theorem main4.tw3131278375633994969 : True := trivial
theorem main4.tw2437199639895092616 : True := trivial
theorem main4.tw12296600397296474703 : True := trivial
theorem main4.tw16835493018185844328 : True := trivial
theorem main4.tw17232442474236551775 : True := trivial
theorem main4.tw7999990601558547100 : True := trivial
theorem main4.tw2847648039630590279 : True := trivial
theorem main4.tw14613889399476616999 : True := trivial
theorem main4.tw2594167554855991358 : True := trivial
theorem main4.tw4264837800158729175 : True := trivial
theorem main4.tw5368747401122404399 : True := trivial
theorem main4.tw4728817240864480323 : True := trivial
theorem main4.tw14524654290123529610 : True := trivial
theorem main4.tw3321041380729951317 : True := trivial
theorem main4.tw6194371714996635986 : True := trivial
theorem main4.tw7006492907674813054 : True := trivial
theorem main4.tw16654030383976468091 : True := trivial
theorem main4.tw16370299619500147302 : True := trivial
theorem main4.tw17140781170470295283 : True := trivial
theorem main4.tw17904638266240629011 : True := trivial
theorem main4.tw10840740533597966188 : True := trivial
theorem main4.tw17100145742995993221 : True := trivial
theorem main4.tw6110322561459570917 : True := trivial
theorem main4.tw2092246109637991383 : True := trivial
theorem main4.tw12895699811568878240 : True := trivial
theorem main4.tw5876414959338898234 : True := trivial
theorem main4.tw5061576088811740398 : True := trivial
theorem main4.tw351198137929576409 : True := trivial
theorem main4.tw9814742951663855820 : True := trivial
theorem main4.tw17165990753901496524 : True := trivial
theorem main4.tw14882285567834927581 : True := trivial
theorem main4.tw16896751264481873368 : True := trivial
theorem main4.tw1278940700580984924 : True := trivial
theorem main4.tw10492366271297567925 : True := trivial
theorem main4.tw13606199088021231382 : True := trivial
theorem main4.tw10401470757644520924 : True := trivial
theorem main4.tw5287299747676183299 : True := trivial
theorem main4.tw16361837221633806366 : True := trivial
theorem main4.tw8641325757188986472 : True := trivial
theorem main4.tw1654011837809842062 : True := trivial
theorem main4.tw525702383101800926 : True := trivial
theorem main4.tw18324923264241972845 : True := trivial
theorem main4.tw14631433646557867623 : True := trivial
theorem main4.tw11586825208935772427 : True := trivial
theorem main4.tw10124252124017062838 : True := trivial
theorem main4.tw6898571679476424347 : True := trivial
theorem main4.tw16604098010547118812 : True := trivial
theorem main4.tw5694245889488201914 : True := trivial
theorem main4.tw3113496159326189676 : True := trivial
theorem main4.tw2437863850724187785 : True := trivial
theorem main4.tw1184485863034385832 : True := trivial
theorem main4.tw13406588233083488769 : True := trivial
theorem main4.tw16901110937874684866 : True := trivial
set_option Elab.async true in
theorem main4 (said : PySem.Challenge.rw_kq0020_04.row.wellSaid = true) : PySem.Challenge.rw_kq0020_04.row.Holds := by
  o_head (kHook capt.heap_1 [2, 3, 33, 35, 36, 38, 39, 40, 42, 43, 45, 46, 47, 49, 50, 52, 53, 54, 61, 62, 63, 64, 74, 76, 77, 79, 80, 81, 82, 83, 84, 85, 86, 89, 96, 97, 98, 101, 108, 109, 110, 113, 120, 121, 123, 124, 126, 127, 128, 130, 131, 133, 134, 135, 137, 138, 140, 141, 142, 144, 145, 147, 148, 149, 150, 152, 153, 155, 156, 157, 159, 160, 162, 163, 164, 166, 167, 169, 170, 171, 173, 174, 176, 177, 178, 180, 181, 183, 184, 185, 187, 188, 190, 191, 192, 194, 195, 197, 198, 199, 201, 202, 204, 205, 206, 208, 209, 211, 212, 213, 215, 216, 218, 219, 220, 222, 223, 225, 226, 227, 229, 230, 232, 233, 234, 236, 237, 239, 240, 241, 242, 244, 245, 247, 248, 249, 250, 252, 253, 255, 256, 257, 258, 260, 261, 263, 264, 265, 266, 268, 269, 271, 272, 273, 275, 276, 278, 279, 280, 282, 283, 285, 286, 287, 288, 290, 291, 293, 294, 295, 296, 298, 299, 301, 302, 303, 305, 306, 308, 309, 310, 312, 313, 315, 316, 317, 319, 320, 322, 323, 324, 326, 327, 329, 330, 331, 333, 334, 336, 337, 338, 339, 340, 343, 350, 351, 353, 354, 356, 357, 358, 360, 361, 363, 364, 365, 367, 368, 370, 371, 372, 374, 375, 377, 378, 379, 381, 382, 384, 385, 386, 388, 389, 391, 392, 393, 394, 396, 397, 399, 400, 401, 402, 404, 405, 407, 408, 409, 410, 412, 413, 415, 416, 417, 418, 420, 421, 423, 424, 425, 426, 428, 429, 431, 432, 433, 435, 436, 438, 439, 440, 442, 443, 445, 446, 447, 449, 450, 452, 453, 454, 456, 457, 459, 460, 461, 463, 464, 466, 467, 468, 470, 471, 473, 474, 475, 477, 478, 480, 481, 482, 484, 485, 487, 488, 489, 491, 492, 494, 495, 496, 498, 499, 501, 502, 503, 505, 506, 508, 509, 510, 511, 513, 514, 516, 517, 518, 519, 521, 522, 524, 525, 526, 527, 529, 530, 532, 533, 534, 535, 537, 538, 540, 541, 542, 543, 545, 546, 548, 549, 550, 552, 553, 555, 556, 557, 559, 560, 562, 563, 564, 566, 567, 569, 570, 571, 573, 574, 576, 577, 578, 580, 581, 583, 584, 585, 586, 587, 590, 592, 593, 595, 596, 597, 599, 600, 602, 603, 604, 606, 607, 609, 610, 611, 613, 614, 616, 617, 618, 620, 621, 623, 624, 625, 627, 628, 630, 631, 639, 640, 642, 643, 645, 646, 647, 649, 650, 652, 653, 654, 655, 657, 658, 660, 661, 662, 663, 665, 666, 668, 669, 670, 672, 673, 675, 676, 677, 679, 680, 682, 683, 684, 686, 687, 689, 690, 691, 693, 694, 696, 697, 698, 699, 701, 702, 704, 705, 706, 708, 709, 711, 712, 713, 715, 716, 718, 719, 720, 721, 722, 723, 724, 727, 729, 730, 732, 733, 734, 736, 737, 739, 740, 741, 743, 744, 746, 747, 748, 750, 751, 753, 754] (fun _ => by kernel_rfl))
  (case hw => w_witness2)
  k_go0
  rename (Frag.In (capt.heap_1 _) _) => KX
  rename (PyProof.Rows.Top _ _ _ _ _ _) => T
  rename (PyProof.Rows.Fr _ _ _ _) => FR
  rename (Shared.gens _ = #[]) => HG
  rename (Heap.IsList _ _ _) => HL
  rename (IntsAre _ _) => HI
  rename (¬ (_ : Int) < _) => HC
  rename World => w
  obtain ⟨C, hC⟩ : ∃ C : Cx, C = cxOf PySem.Challenge.rw_kq0020_04.row.prog w KX T.g T.b T.builtins T.nolimit := ⟨_, rfl⟩
  have hK : C.K = KK C.w.params := by rw [hC]; rfl
  have hM : C.M = model PySem.Challenge.rw_kq0020_04.row.prog w := by rw [hC]; rfl
  rw [← hM]
  refine run_law (C := C) (by rw [hC]; rfl) (by rw [hC]; rfl) HG FR rfl rfl rfl ?_ ?_
  · intro f hf
    have ok : f.Ok 20 [(Str.ofString "script", NameKind.local), (Str.ofString "row", NameKind.local), (Str.ofString "_law_digits", NameKind.globalImplicit), (Str.ofString "_law_holds", NameKind.globalImplicit)] := by
      subst hf
      exact ok_start rfl rfl rfl rfl rfl (by decide +kernel) (by decide +kernel) (by decide +kernel) (by decide +kernel)
    have hA : f.A.handled = none := by subst hf; rfl
    clear hf
    have hLs := statL_of (C := C) HL HI (by rw [hC]; rfl)
    have hz := len_of HC
    clear hC
    show Ex C f NoX [some (.stat (.ref _)), none, none, none] (execs _ f.env) (ov [] [] noH) _
    dsimp only
    walk_at "ww"
    all_goals (first | done | rfl)
  · intro s' h1 h2 h3
    refine ⟨.inl ⟨.bool true, .bool true, [], rfl, fun _ => rfl, .bool true, by kernel_rfl, fun _ => ⟨List.nodup_nil, fun _ h => nomatch h⟩⟩, h1, h2, h3⟩
end
end Mine
namespace Mine
theorem law4.tw7756749383233310478 : True := trivial
set_option Elab.async true in
theorem law4 : PySem.Challenge.rw_kq0020_04.Holds := by
  w_on
  o_law
  exact main4 (by assumption)
end Mine
theorem PySem.Challenge.cw_kq0020_04_holds : PySem.Challenge.rw_kq0020_04.Holds :=
  Mine.law4

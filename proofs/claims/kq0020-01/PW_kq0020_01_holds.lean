import PyProof.Rows.All
import Wide.All
import OpenK.AllK
import Wide.FinOn
import KE.KDictOf
import KE.KParD
import Lean
import PySem.Challenge.RW_kq0020_01
open PySem PySem.W PySem.Calls PyProof.Rows
set_option maxRecDepth 100000
set_option autoImplicit false
set_option Elab.async false
set_option linter.all false
set_option compiler.extract_closed false
set_option maxHeartbeats 8000000
namespace Mine

/-- values -/
inductive V where
  | none
  | bool (b : Bool)
  | int (i : Int)
  | str (s : List Nat)
  | tup (vs : List V)
  | ref (a : Addr)
  | stat (v : Value)

noncomputable def tx (s : List Nat) : PySem.Str := ⟨s.toArray⟩

mutual
inductive VR (h : Heap) : V → Value → Prop
  | none : VR h .none .none
  | bool {b} : VR h (.bool b) (.bool b)
  | int {i t} : VR h (.int i) (.int i t)
  | str {s t} : VR h (.str s) (.str (tx s) t)
  | ref {a} : VR h (.ref a) (.ref a)
  | stat {v} : VR h (.stat v) v
  | tup {a vs cvs} : h.IsTuple a (List.toArray cvs) → VRs h vs cvs → VR h (.tup vs) (.ref a)
inductive VRs (h : Heap) : List V → List Value → Prop
  | nil : VRs h [] []
  | cons {v cv vs cvs} : VR h v cv → VRs h vs cvs → VRs h (v :: vs) (cv :: cvs)
end

/-- tuples stay -/
noncomputable def Tup (h h' : Heap) : Prop := ∀ a items, h.IsTuple a items → h'.IsTuple a items
theorem Tup.refl (h : Heap) : Tup h h := fun _ _ x => x
theorem Tup.trans {h₁ h₂ h₃ : Heap} (x : Tup h₁ h₂) (y : Tup h₂ h₃) : Tup h₁ h₃ := fun a i z => y a i (x a i z)
theorem Tup.ext {h h' : Heap} (x : ∀ b o, h.get? b = some o → h'.get? b = some o) : Tup h h' :=
  fun a _ ⟨o, ho, r⟩ => ⟨o, x a o ho, r⟩

mutual
theorem VR.mono {h h' : Heap} (x : Tup h h') : ∀ {v cv}, VR h v cv → VR h' v cv
  | _, _, .none => .none
  | _, _, .bool => .bool
  | _, _, .int => .int
  | _, _, .str => .str
  | _, _, .ref => .ref
  | _, _, .stat => .stat
  | _, _, .tup a b => .tup (x _ _ a) (VRs.mono x b)
theorem VRs.mono {h h' : Heap} (x : Tup h h') : ∀ {v cv}, VRs h v cv → VRs h' v cv
  | _, _, .nil => .nil
  | _, _, .cons a b => .cons (VR.mono x a) (VRs.mono x b)
end

theorem VRs.length {h : Heap} : ∀ {vs : List V} {cvs : List Value}, VRs h vs cvs → vs.length = cvs.length
  | _, _, .nil => rfl
  | _, _, .cons _ b => by simp [b.length]
theorem VRs.get {h : Heap} : ∀ {vs : List V} {cvs : List Value} {i : Nat} {v : V}, VRs h vs cvs → vs[i]? = some v → ∃ cv, cvs[i]? = some cv ∧ VR h v cv
  | _, _, 0, _, .cons a _, e => by simp at e; subst e; exact ⟨_, rfl, a⟩
  | _, _, i + 1, _, .cons _ b, e => by simpa using b.get (i := i) (by simpa using e)
theorem VRs.append {h : Heap} : ∀ {vs ws : List V} {cvs cws : List Value}, VRs h vs cvs → VRs h ws cws → VRs h (vs ++ ws) (cvs ++ cws)
  | _, _, _, _, .nil, y => y
  | _, _, _, _, .cons a b, y => .cons a (b.append y)
theorem VRs.drop {h : Heap} : ∀ {vs : List V} {cvs : List Value} (i : Nat), VRs h vs cvs → VRs h (vs.drop i) (cvs.drop i)
  | _, _, 0, x => x
  | _, _, _ + 1, .nil => .nil
  | _, _, i + 1, .cons _ b => b.drop i
theorem VRs.take {h : Heap} : ∀ {vs : List V} {cvs : List Value} (i : Nat), VRs h vs cvs → VRs h (vs.take i) (cvs.take i)
  | _, _, 0, _ => .nil
  | _, _, _ + 1, .nil => .nil
  | _, _, i + 1, .cons a b => .cons a (b.take i)

/-- locals: the names of the scope, place by place -/
noncomputable abbrev Loc := List (Option V)
noncomputable def LocR (h : Heap) (N : List PySem.Str) (ρ : Loc) (m : PySem.Str → Option Value) : Prop :=
  ∀ (i : Nat) (x : PySem.Str) (v : V), N[i]? = some x → ρ[i]? = some (some v) → ∃ cv, m x = some cv ∧ VR h v cv
theorem LocR.mono {h h' : Heap} {N : List PySem.Str} {ρ : Loc} {m : PySem.Str → Option Value} (x : Tup h h') (y : LocR h N ρ m) : LocR h' N ρ m := fun i a v p q =>
  let ⟨cv, e, z⟩ := y i a v p q; ⟨cv, e, z.mono x⟩
theorem nodup_inj {α : Type} : ∀ {l : List α}, l.Nodup → ∀ {i j : Nat} {x : α}, l[i]? = some x → l[j]? = some x → i = j
  | [], _, i, j, x, p, _ => by simp at p
  | a :: l, h, 0, 0, _, _, _ => rfl
  | a :: l, h, 0, j + 1, x, p, q => by
    simp at p q; subst p
    exact absurd (List.mem_of_getElem? q) (List.nodup_cons.mp h).1
  | a :: l, h, i + 1, 0, x, p, q => by
    simp at p q; subst q
    exact absurd (List.mem_of_getElem? p) (List.nodup_cons.mp h).1
  | a :: l, h, i + 1, j + 1, x, p, q => by
    exact congrArg (· + 1) (nodup_inj (i := i) (j := j) (x := x) (List.nodup_cons.mp h).2 (by simpa using p) (by simpa using q))
theorem LocR.put {h : Heap} {N : List PySem.Str} {ρ : Loc} {m : PySem.Str → Option Value} {i : Nat} {x : PySem.Str} {v : V} {cv : Value} (y : LocR h N ρ m) (hn : N.Nodup) (hi : N[i]? = some x) (hv : VR h v cv) :
    LocR h N (ρ.set i (some v)) (fun z => if z = x then some cv else m z) := by
  intro j z u p q
  by_cases e : j = i
  · subst e
    rw [hi] at p; cases p
    rw [List.getElem?_set] at q
    simp only [if_true] at q
    split at q
    · cases q; exact ⟨cv, by simp, hv⟩
    · cases q
  · rw [List.getElem?_set, if_neg (fun c => e c.symm)] at q
    obtain ⟨cu, hm, hr⟩ := y j z u p q
    refine ⟨cu, ?_, hr⟩
    have : z ≠ x := by
      rintro rfl
      exact e (nodup_inj hn p hi)
    simp [this, hm]

/-- objects -/
inductive AO where
  | list (vs : List V)
  | deque (vs : List V)
  | inst (C d : Addr)
  | dict (es : List (PySem.Str × V))
  | cell (v : Option V)
  | frame (N : List PySem.Str) (ρ : Loc)
  | any (P : Obj → Prop)
  | exc (cls : String) (vs : List V)

noncomputable abbrev AH := Addr → Option AO

inductive ERs (h : Heap) : List (PySem.Str × V) → List DictEntry → Prop
  | nil : ERs h [] []
  | cons {x v t hs cv es ces} : VR h v cv → ERs h es ces → ERs h ((x, v) :: es) (⟨hs, .str x t, cv⟩ :: ces)
theorem ERs.mono {h h' : Heap} (x : Tup h h') : ∀ {es ces}, ERs h es ces → ERs h' es ces
  | _, _, .nil => .nil
  | _, _, .cons a b => .cons (a.mono x) (b.mono x)

noncomputable def ObjAt (h : Heap) (a : Addr) : AO → Prop
  | .list vs => ∃ cvs n, h.get? a = some ⟨.type "list", none, .seq (List.toArray cvs) n, #[]⟩ ∧ VRs h vs cvs
  | .deque vs => ∃ cvs k, h.get? a = some ⟨.type "collections.deque", none, .fields (List.toArray (.none :: rawInt k :: cvs)), #[]⟩ ∧ VRs h vs cvs
  | .inst C d => h.get? a = some ⟨.ref C, some d, .plain, #[]⟩
  | .dict es => ∃ ces n, h.get? a = some ⟨.type "dict", none, .dict (List.toArray ces) n, #[]⟩ ∧ ERs h es ces
  | .cell v => ∃ o cv, h.get? a = some o ∧ o.data = .cell cv ∧ (∀ u, v = some u → ∃ cu, cv = some cu ∧ VR h u cu)
  | .frame N ρ => ∃ m, h.Ns a m ∧ LocR h N ρ m
  | .any P => ∃ o, h.get? a = some o ∧ P o ∧ o.cls ≠ .type "tuple"
  | .exc cls vs => ∃ o ws t cvs, h.get? a = some o ∧ o.cls = .type cls ∧ o.data = .fields ws ∧ ws[0]? = some (.ref t) ∧ h.IsTuple t (List.toArray cvs) ∧ VRs h vs cvs

theorem ObjAt.mono {h h' : Heap} {a : Addr} {o : AO} (x : Tup h h') (e : h'.get? a = h.get? a) (y : ObjAt h a o) : ObjAt h' a o := by
  cases o with
  | list vs => obtain ⟨c, n, g, r⟩ := y; exact ⟨c, n, e.trans g, r.mono x⟩
  | deque vs => obtain ⟨c, n, g, r⟩ := y; exact ⟨c, n, e.trans g, r.mono x⟩
  | inst C d => exact e.trans y
  | dict es => obtain ⟨c, n, g, r⟩ := y; exact ⟨c, n, e.trans g, r.mono x⟩
  | cell v => obtain ⟨ob, cv, g, hd, r⟩ := y; exact ⟨ob, cv, e.trans g, hd, fun u hu => let ⟨cu, p, q⟩ := r u hu; ⟨cu, p, q.mono x⟩⟩
  | frame N ρ => obtain ⟨m, ⟨ob, es, ep, g, r⟩, z⟩ := y; exact ⟨m, ⟨ob, es, ep, e.trans g, r⟩, z.mono x⟩
  | any P => obtain ⟨ob, g, r⟩ := y; exact ⟨ob, e.trans g, r⟩
  | exc cls vs => obtain ⟨o, ws, t, cvs, g, h1, h2, h3, h4, h5⟩ := y; exact ⟨o, ws, t, cvs, e.trans g, h1, h2, h3, x _ _ h4, h5.mono x⟩

theorem ObjAt.get {h : Heap} {a : Addr} {o : AO} (y : ObjAt h a o) : ∃ ob, h.get? a = some ob ∧ ¬ (ob.cls = .type "tuple" ∧ ∃ i n, ob.data = .seq i n) := by
  cases o with
  | list vs => obtain ⟨c, n, g, _⟩ := y; exact ⟨_, g, fun z => absurd z.1 (by simp)⟩
  | deque vs => obtain ⟨c, n, g, _⟩ := y; exact ⟨_, g, fun z => absurd z.1 (by simp)⟩
  | inst C d => exact ⟨_, y, fun z => absurd z.1 (by simp)⟩
  | dict es => obtain ⟨c, n, g, _⟩ := y; exact ⟨_, g, fun z => absurd z.1 (by simp)⟩
  | cell v => obtain ⟨ob, cv, g, hd, _⟩ := y; exact ⟨ob, g, fun ⟨_, i, n, q⟩ => by rw [hd] at q; cases q⟩
  | frame N ρ => obtain ⟨m, ⟨ob, es, ep, g, hd, _⟩, _⟩ := y; exact ⟨ob, g, fun ⟨_, i, n, q⟩ => by rw [hd] at q; cases q⟩
  | any P => obtain ⟨ob, g, _, r⟩ := y; exact ⟨ob, g, fun z => r z.1⟩
  | exc cls vs => obtain ⟨o, ws, t, cvs, g, h1, h2, h3, _⟩ := y; exact ⟨o, g, fun ⟨_, i, n, q⟩ => by rw [h2] at q; cases q⟩

theorem ObjAt.tup {h h' : Heap} {a : Addr} {o : AO} (y : ObjAt h a o) (s : Heap.SameBut a h h') : Tup h h' := by
  rintro b items ⟨ob, hob, hc, n, hd⟩
  refine ⟨ob, ?_, hc, n, hd⟩
  have : b ≠ a := by
    rintro rfl
    obtain ⟨ob', hob', hn⟩ := y.get
    rw [hob] at hob'; cases hob'
    exact hn ⟨hc, items, n, hd⟩
  exact (s.2 b this).trans hob

/-- the fixed part -/
structure Cx where
  prog : Program
  w : World
  K : Frag
  base : Heap
  os : OsState
  mg : PySem.Str → Option Value
  mb : PySem.Str → Option Value
  X : K.In base
  g : base.Ns mainGlobals mg
  b : base.Ns builtinsNs mb
  builtins : ∀ x : PySem.Str, x ≠ "__name__" → mb x = bootBuiltins x
  nolimit : base.NoLimit

noncomputable def AH.set (τ : AH) (a : Addr) (o : AO) : AH := fun b => if b = a then some o else τ b
theorem AH.set_self (τ : AH) (a : Addr) (o : AO) : (τ.set a o) a = some o := by simp [AH.set]
theorem AH.set_ne (τ : AH) {a b : Addr} (o : AO) (h : b ≠ a) : (τ.set a o) b = τ b := by simp [AH.set, h]

structure Sat (C : Cx) (τ : AH) (s : Shared) : Prop where
  keep : ∀ b o, C.base.get? b = some o → s.heap.get? b = some o
  obj : ∀ a o, τ a = some o → ObjAt s.heap a o ∧ C.base.get? a = none
  gens : s.gens = #[]
  os : s.os = C.os

section
variable {C : Cx} {τ : AH} {s : Shared}
theorem Sat.toks (x : Sat C τ s) (t : Nat) : Sat C τ { s with toks := t } := ⟨x.keep, x.obj, x.gens, x.os⟩
theorem Sat.weaken {τ' : AH} (x : Sat C τ s) (h : ∀ a o, τ' a = some o → τ a = some o) : Sat C τ' s :=
  ⟨x.keep, fun a o e => x.obj a o (h a o e), x.gens, x.os⟩
theorem Sat.ext {h' : Heap} (x : Sat C τ s) (h : ∀ b o, s.heap.get? b = some o → h'.get? b = some o) (t : Nat) : Sat C τ { s with heap := h', toks := t } := by
  refine ⟨fun b o e => h b o (x.keep b o e), fun a o e => ⟨?_, (x.obj a o e).2⟩, x.gens, x.os⟩
  obtain ⟨ob, g, _⟩ := (x.obj a o e).1.get
  exact (x.obj a o e).1.mono (Tup.ext h) ((h a ob g).trans g.symm)
theorem Sat.upd {a : Addr} {o o' : AO} {h' : Heap} (x : Sat C τ s) (ha : τ a = some o) (hs : Heap.SameBut a s.heap h') (ho : ObjAt h' a o') (t : Nat) :
    Sat C (τ.set a o') { s with heap := h', toks := t } := by
  have tp := (x.obj a o ha).1.tup hs
  have nb := (x.obj a o ha).2
  refine ⟨fun b ob e => (hs.2 b (fun q => by rw [q, nb] at e; cases e)).trans (x.keep b ob e), fun b ob e => ?_, x.gens, x.os⟩
  unfold AH.set at e
  split at e
  · rename_i q; subst q; cases e; exact ⟨ho, nb⟩
  · rename_i q
    exact ⟨(x.obj b ob e).1.mono tp (hs.2 b q), (x.obj b ob e).2⟩
theorem Sat.fresh (x : Sat C τ s) : τ s.heap.objs.size = none := by
  cases e : τ s.heap.objs.size with
  | none => rfl
  | some o =>
    obtain ⟨ob, g, _⟩ := (x.obj _ o e).1.get
    exact absurd (Heap.lt_size g) (Nat.lt_irrefl _)
theorem Sat.base_lt (x : Sat C τ s) : C.base.get? s.heap.objs.size = none := by
  cases e : C.base.get? s.heap.objs.size with
  | none => rfl
  | some o => exact absurd (Heap.lt_size (x.keep _ _ e)) (Nat.lt_irrefl _)
theorem Sat.new {o : AO} {ob : Obj} {h' : Heap} (x : Sat C τ s) (hk : ∀ b o, s.heap.get? b = some o → h'.get? b = some o) (ho : ObjAt h' s.heap.objs.size o) (t : Nat) :
    Sat C (τ.set s.heap.objs.size o) { s with heap := h', toks := t } := by
  refine ⟨fun b ob e => hk b ob (x.keep b ob e), fun b _ob e => ?_, x.gens, x.os⟩
  unfold AH.set at e
  split at e
  · rename_i q; subst q; cases e; exact ⟨ho, x.base_lt⟩
  · exact ((x.ext hk t).obj b _ e)
end
end Mine

namespace Mine

theorem wp_if_neg {α : Type} {M : Model} {A : Around} {E : Value → Shared → Prop} {s : Shared} {Q : α → Shared → Prop} {c : Prop} [Decidable c] {t e : Sem α} (h : ¬ c) (k : wpAny M A e Q E s) : wpAny M A (if c then t else e) Q E s := by rw [if_neg h]; exact k
structure Fx where
  A : Around
  env : Env
  outer : List Env
  stack : List Env

noncomputable abbrev Fx.N (f : Fx) : List PySem.Str := f.env.scope.names.map (·.1)
noncomputable abbrev Fx.L (f : Fx) : Addr := f.env.locals

structure Fx.Ok (d : Nat) (ns : List (PySem.Str × NameKind)) (f : Fx) : Prop where
  names : f.env.scope.names = ns
  kind : f.env.scope.kind = .function
  globals : f.env.globals = mainGlobals
  builtins : f.env.builtins = builtinsNs
  frame : (f.stack = f.env :: f.outer ∧ f.env.frame = some f.env.locals) ∨ f.stack = f.outer
  nd : f.N.Nodup
  dbg : f.N.all (fun x => !(x == ("__debug__" : PySem.Str))) = true
  depth : f.A.depth + d < recursionLimit
  units : f.A.units + 4 * d + 16 < cLine
  frames : f.A.frames = some f.stack

structure Dis (L : Addr) (outer : List Env) (F σ : AH) : Prop where
  l1 : σ L = none
  l2 : F L = none
  l3 : ∀ a o, F a = some o → σ a = none
  fr : ∀ e ∈ outer, e.scope.kind ≠ .module ∧ ∃ L' N ρ, e.frame = some L' ∧ F L' = some (.frame N ρ)

noncomputable def tot (L : Addr) (N : List PySem.Str) (ρ : Loc) (F σ : AH) : AH := fun a => if a = L then some (.frame N ρ) else match σ a with | some o => some o | none => F a

structure St (C : Cx) (f : Fx) (ρ : Loc) (F σ : AH) (s : Shared) : Prop where
  dis : Dis f.L f.outer F σ
  sat : Sat C (tot f.L f.N ρ F σ) s

section
variable {C : Cx} {f : Fx} {ρ : Loc} {F σ : AH} {s : Shared}
theorem tot_L {L : Addr} {N : List PySem.Str} : tot L N ρ F σ L = some (.frame N ρ) := by simp [tot]
theorem St.at (x : St C f ρ F σ s) {a : Addr} {o : AO} (h : σ a = some o) : tot f.L f.N ρ F σ a = some o := by
  have : a ≠ f.L := fun e => by rw [e, x.dis.l1] at h; cases h
  simp [tot, this, h]
theorem St.atF (x : St C f ρ F σ s) {a : Addr} {o : AO} (h : F a = some o) : tot f.L f.N ρ F σ a = some o := by
  have : a ≠ f.L := fun e => by rw [e, x.dis.l2] at h; cases h
  simp [tot, this, h, x.dis.l3 a o h]
theorem St.obj (x : St C f ρ F σ s) {a : Addr} {o : AO} (h : σ a = some o) : ObjAt s.heap a o := (x.sat.obj a o (x.at h)).1
theorem St.locals (x : St C f ρ F σ s) : ∃ m, s.heap.Ns f.env.locals m ∧ LocR s.heap f.N ρ m := (x.sat.obj _ _ tot_L).1
theorem St.toks (x : St C f ρ F σ s) (t : Nat) : St C f ρ F σ { s with toks := t } := ⟨x.dis, x.sat.toks t⟩
theorem St.fresh (x : St C f ρ F σ s) : σ s.heap.objs.size = none ∧ F s.heap.objs.size = none ∧ s.heap.objs.size ≠ f.L := by
  have e := x.sat.fresh
  unfold tot at e
  split at e
  · cases e
  · rename_i h
    cases q : σ s.heap.objs.size with
    | none => rw [q] at e; exact ⟨rfl, e, h⟩
    | some o => rw [q] at e; cases e
theorem tot_set {L : Addr} {N : List PySem.Str} {a : Addr} {o : AO} (h : a ≠ L) : tot L N ρ F (σ.set a o) = (tot L N ρ F σ).set a o := by
  funext b
  unfold tot AH.set
  by_cases e : b = L
  · have : b ≠ a := fun q => h (q.symm.trans e)
    simp [e, this, Ne.symm h]
  · by_cases q : b = a
    · simp [q, h]
    · simp [e, q]
theorem tot_loc {L : Addr} {N : List PySem.Str} {ρ' : Loc} : tot L N ρ' F σ = (tot L N ρ F σ).set L (.frame N ρ') := by
  funext b
  unfold tot AH.set
  by_cases e : b = L <;> simp [e]
theorem Dis.set {L : Addr} {outer : List Env} {a : Addr} {o : AO} (x : Dis L outer F σ) (h1 : a ≠ L) (h2 : F a = none) : Dis L outer F (σ.set a o) := by
  refine ⟨by rw [AH.set_ne _ _ (Ne.symm h1)]; exact x.l1, x.l2, fun b ob e => ?_, x.fr⟩
  have : b ≠ a := fun q => by rw [q, h2] at e; cases e
  rw [AH.set_ne _ _ this]; exact x.l3 b ob e
theorem St.notL (x : St C f ρ F σ s) {a : Addr} {o : AO} (h : σ a = some o) : a ≠ f.L := fun e => by rw [e, x.dis.l1] at h; cases h
theorem St.notF (x : St C f ρ F σ s) {a : Addr} {o : AO} (h : σ a = some o) : F a = none := by
  cases e : F a with
  | none => rfl
  | some o' => rw [x.dis.l3 a o' e] at h; cases h
theorem St.upd (x : St C f ρ F σ s) {a : Addr} {o o' : AO} {h' : Heap} (h : σ a = some o) (hs : Heap.SameBut a s.heap h') (ho : ObjAt h' a o') (t : Nat) :
    St C f ρ F (σ.set a o') { s with heap := h', toks := t } ∧ Tup s.heap h' := by
  refine ⟨⟨x.dis.set (x.notL h) (x.notF h), ?_⟩, (x.obj h).tup hs⟩
  rw [tot_set (x.notL h)]
  exact x.sat.upd (x.at h) hs ho t
theorem St.new (x : St C f ρ F σ s) {o : AO} {h' : Heap} (hk : ∀ b o, s.heap.get? b = some o → h'.get? b = some o) (ho : ObjAt h' s.heap.objs.size o) (t : Nat) :
    St C f ρ F (σ.set s.heap.objs.size o) { s with heap := h', toks := t } ∧ Tup s.heap h' := by
  obtain ⟨f1, f2, f3⟩ := x.fresh
  refine ⟨⟨x.dis.set f3 f2, ?_⟩, Tup.ext hk⟩
  rw [tot_set f3]
  exact x.sat.new (ob := default) hk ho t
theorem St.ext (x : St C f ρ F σ s) {h' : Heap} (hk : ∀ b o, s.heap.get? b = some o → h'.get? b = some o) (t : Nat) :
    St C f ρ F σ { s with heap := h', toks := t } ∧ Tup s.heap h' := ⟨⟨x.dis, x.sat.ext hk t⟩, Tup.ext hk⟩
theorem St.store (x : St C f ρ F σ s) {i : Nat} {n : PySem.Str} {v : V} {cv : Value} {h' : Heap} {m : PySem.Str → Option Value} (hn : f.N.Nodup) (hi : f.N[i]? = some n) (hv : VR s.heap v cv)
    (hm : s.heap.Ns f.env.locals m) (hr : LocR s.heap f.N ρ m) (h : h'.Ns f.env.locals (fun y => if y = n then some cv else m y)) (hs : Heap.SameBut f.env.locals s.heap h') (t : Nat) :
    St C f (ρ.set i (some v)) F σ { s with heap := h', toks := t } ∧ Tup s.heap h' := by
  have tp : Tup s.heap h' := (x.sat.obj _ _ tot_L).1.tup hs
  refine ⟨⟨x.dis, ?_⟩, tp⟩
  rw [tot_loc (ρ := ρ)]
  exact x.sat.upd tot_L hs (show ObjAt h' f.L (.frame f.N (ρ.set i (some v))) from ⟨_, h, (hr.put hn hi hv).mono tp⟩) t
theorem totF_set {L : Addr} {N : List PySem.Str} {a : Addr} {o : AO} (h : a ≠ L) (hs : σ a = none) : tot L N ρ (F.set a o) σ = (tot L N ρ F σ).set a o := by
  funext b
  unfold tot AH.set
  by_cases e : b = L
  · have : b ≠ a := fun q => h (q.symm.trans e)
    simp [e, this, Ne.symm h]
  · by_cases q : b = a
    · subst q; simp [h, hs]
    · simp [e, q]
theorem Dis.setF {L : Addr} {outer : List Env} {a : Addr} {o : AO} (x : Dis L outer F σ) (h1 : a ≠ L) (h2 : σ a = none)
    (h3 : ∀ N ρ, F a = some (.frame N ρ) → ∃ N' ρ', o = .frame N' ρ') : Dis L outer (F.set a o) σ := by
  refine ⟨x.l1, by rw [AH.set_ne _ _ (Ne.symm h1)]; exact x.l2, fun b ob e => ?_, fun e he => ?_⟩
  · by_cases q : b = a
    · subst q; exact h2
    · rw [AH.set_ne _ _ q] at e; exact x.l3 b ob e
  · obtain ⟨k, L', N, ρ, e1, e2⟩ := x.fr e he
    by_cases q : L' = a
    · subst q
      obtain ⟨N', ρ', rfl⟩ := h3 N ρ e2
      exact ⟨k, L', N', ρ', e1, AH.set_self ..⟩
    · exact ⟨k, L', N, ρ, e1, by rw [AH.set_ne _ _ q]; exact e2⟩
theorem St.newF (x : St C f ρ F σ s) {o : AO} {h' : Heap} (hk : ∀ b o, s.heap.get? b = some o → h'.get? b = some o) (ho : ObjAt h' s.heap.objs.size o) (t : Nat) :
    St C f ρ (F.set s.heap.objs.size o) σ { s with heap := h', toks := t } := by
  obtain ⟨f1, f2, f3⟩ := x.fresh
  refine ⟨x.dis.setF f3 f1 (fun N ρ e => by rw [f2] at e; cases e), ?_⟩
  rw [totF_set f3 f1]
  exact x.sat.new (ob := default) hk ho t
theorem St.updF (x : St C f ρ F σ s) {a : Addr} {P P' : Obj → Prop} {h' : Heap} (h : F a = some (.any P)) (hs : Heap.SameBut a s.heap h') (ho : ObjAt h' a (.any P')) (t : Nat) :
    St C f ρ (F.set a (.any P')) σ { s with heap := h', toks := t } ∧ Tup s.heap h' := by
  have h1 : a ≠ f.L := fun e => by rw [e, x.dis.l2] at h; cases h
  have h2 : σ a = none := x.dis.l3 a _ h
  refine ⟨⟨x.dis.setF h1 h2 (fun N ρ e => by rw [h] at e; cases e), ?_⟩, (x.sat.obj a _ (x.atF h)).1.tup hs⟩
  rw [totF_set h1 h2]
  exact x.sat.upd (x.atF h) hs ho t
theorem St.dropF (x : St C f ρ F σ s) {F₀ : AH} {a : Addr} {P : Obj → Prop} {h' : Heap} (hF : F = F₀.set a (.any P)) (h0 : F₀ a = none) (hs : Heap.ExtBut a s.heap h') (t : Nat) :
    St C f ρ F₀ σ { s with heap := h', toks := t } ∧ Tup s.heap h' := by
  subst hF
  have hFa : (F₀.set a (.any P)) a = some (.any P) := AH.set_self ..
  have h1 : a ≠ f.L := fun e => by have := x.dis.l2; rw [← e, hFa] at this; cases this
  have h2 : σ a = none := x.dis.l3 a _ hFa
  have tp : Tup s.heap h' := by
    rintro b items ⟨ob, hob, hc, n, hd⟩
    have : b ≠ a := by
      rintro rfl
      obtain ⟨ob', hob', _, hn⟩ := (x.sat.obj b _ (x.atF hFa)).1
      rw [hob] at hob'; cases hob'
      exact hn hc
    exact ⟨ob, hs b ob this hob, hc, n, hd⟩
  have nb : C.base.get? a = none := (x.sat.obj a _ (x.atF hFa)).2
  have keep : ∀ b o, b ≠ a → s.heap.get? b = some o → h'.get? b = some o := fun b o q e => hs b o q e
  refine ⟨⟨⟨x.dis.l1, ?_, fun b o e => ?_, fun e he => ?_⟩, ⟨fun b o e => keep b o (fun q => by rw [q, nb] at e; cases e) (x.sat.keep b o e), fun b o e => ?_, x.sat.gens, x.sat.os⟩⟩, tp⟩
  · have := x.dis.l2; rw [AH.set_ne _ _ (Ne.symm h1)] at this; exact this
  · by_cases q : b = a
    · subst q; exact h2
    · exact x.dis.l3 b o (by rw [AH.set_ne _ _ q]; exact e)
  · obtain ⟨k, L', N, ρ', e1, e2⟩ := x.dis.fr e he
    by_cases q : L' = a
    · subst q; rw [hFa] at e2; cases e2
    · exact ⟨k, L', N, ρ', e1, by rw [AH.set_ne _ _ q] at e2; exact e2⟩
  · have q : b ≠ a := by
      rintro rfl
      unfold tot at e
      rw [if_neg h1, h2] at e
      rw [h0] at e; cases e
    have e' : tot f.L f.N ρ (F₀.set a (.any P)) σ b = some o := by
      rw [totF_set h1 h2, AH.set_ne _ _ q]; exact e
    have y := x.sat.obj b o e'
    obtain ⟨ob, g, _⟩ := y.1.get
    exact ⟨y.1.mono tp ((keep b ob q g).trans g.symm), y.2⟩
end

noncomputable abbrev XT := AH → Value → Shared → Prop
noncomputable abbrev Cx.M (C : Cx) : Model := model C.prog C.w

/-- a value is got -/
inductive EvP (C : Cx) (f : Fx) (ρ : Loc) (F : AH) (h : Heap) (Q : V → AH → Prop) (cv : Value) (s' : Shared) : Prop
  | mk (v : V) (σ' : AH) (a : St C f ρ F σ' s') (b : VR s'.heap v cv) (c : Tup h s'.heap) (d : Q v σ') : EvP C f ρ F h Q cv s'
inductive EtP (C : Cx) (f : Fx) (ρ : Loc) (F : AH) (h : Heap) (Q : Bool → AH → Prop) (b : Bool) (s' : Shared) : Prop
  | mk (σ' : AH) (a : St C f ρ F σ' s') (c : Tup h s'.heap) (d : Q b σ') : EtP C f ρ F h Q b s'
inductive ElP (C : Cx) (f : Fx) (ρ : Loc) (F : AH) (h : Heap) (Q : List V → AH → Prop) (cvs : List Value) (s' : Shared) : Prop
  | mk (vs : List V) (σ' : AH) (a : St C f ρ F σ' s') (b : VRs s'.heap vs cvs) (c : Tup h s'.heap) (d : Q vs σ') : ElP C f ρ F h Q cvs s'
inductive EuP (C : Cx) (f : Fx) (ρ : Loc) (F : AH) (h : Heap) (Q : AH → Prop) (u : Unit) (s' : Shared) : Prop
  | mk (σ' : AH) (a : St C f ρ F σ' s') (c : Tup h s'.heap) (d : Q σ') : EuP C f ρ F h Q u s'
inductive AsP (C : Cx) (f : Fx) (F : AH) (h : Heap) (Q : Loc → AH → Prop) (u : Unit) (s' : Shared) : Prop
  | mk (ρ' : Loc) (σ' : AH) (a : St C f ρ' F σ' s') (c : Tup h s'.heap) (d : Q ρ' σ') : AsP C f F h Q u s'
noncomputable def Ev (C : Cx) (f : Fx) (X : XT) (ρ : Loc) (t : Sem Value) (σ : AH) (Q : V → AH → Prop) : Prop :=
  ∀ F s, St C f ρ F σ s → wpAny C.M f.A t (EvP C f ρ F s.heap Q) (X F) s
noncomputable def Et (C : Cx) (f : Fx) (X : XT) (ρ : Loc) (t : Sem Bool) (σ : AH) (Q : Bool → AH → Prop) : Prop :=
  ∀ F s, St C f ρ F σ s → wpAny C.M f.A t (EtP C f ρ F s.heap Q) (X F) s
noncomputable def El (C : Cx) (f : Fx) (X : XT) (ρ : Loc) (t : Sem (List Value)) (σ : AH) (Q : List V → AH → Prop) : Prop :=
  ∀ F s, St C f ρ F σ s → wpAny C.M f.A t (ElP C f ρ F s.heap Q) (X F) s
inductive Fl where
  | next | brk | cont
  | ret (v : V)
noncomputable def FlR (h : Heap) : Fl → Flow → Prop
  | .next, .next => True
  | .brk, .brk => True
  | .cont, .cont => True
  | .ret v, .ret cv => VR h v cv
  | _, _ => False
inductive ExP (C : Cx) (f : Fx) (F : AH) (h : Heap) (Q : Fl → Loc → AH → Prop) (fl : Flow) (s' : Shared) : Prop
  | mk (a : Fl) (ρ' : Loc) (σ' : AH) (x : St C f ρ' F σ' s') (b : FlR s'.heap a fl) (c : Tup h s'.heap) (d : Q a ρ' σ') : ExP C f F h Q fl s'
noncomputable def Ex (C : Cx) (f : Fx) (X : XT) (ρ : Loc) (t : Sem Flow) (σ : AH) (Q : Fl → Loc → AH → Prop) : Prop :=
  ∀ F s, St C f ρ F σ s → wpAny C.M f.A t (ExP C f F s.heap Q) (X F) s
/-- operations on values -/
noncomputable def O1 (C : Cx) (f : Fx) (X : XT) (ρ : Loc) (t : Value → Sem Value) (a : V) (σ : AH) (Q : V → AH → Prop) : Prop :=
  ∀ F s ca, St C f ρ F σ s → VR s.heap a ca → wpAny C.M f.A (t ca) (EvP C f ρ F s.heap Q) (X F) s
noncomputable def O2 (C : Cx) (f : Fx) (X : XT) (ρ : Loc) (t : Value → Value → Sem Value) (a b : V) (σ : AH) (Q : V → AH → Prop) : Prop :=
  ∀ F s ca cb, St C f ρ F σ s → VR s.heap a ca → VR s.heap b cb → wpAny C.M f.A (t ca cb) (EvP C f ρ F s.heap Q) (X F) s
noncomputable def OT (C : Cx) (f : Fx) (X : XT) (ρ : Loc) (a : V) (σ : AH) (Q : Bool → AH → Prop) : Prop :=
  ∀ F s ca, St C f ρ F σ s → VR s.heap a ca → wpAny C.M f.A (truthy ca) (EtP C f ρ F s.heap Q) (X F) s
noncomputable def OC (C : Cx) (f : Fx) (X : XT) (ρ : Loc) (g : V) (args : List V) (kw : List (PySem.Str × V)) (σ : AH) (Q : V → AH → Prop) : Prop :=
  ∀ F s cg cargs ckw, St C f ρ F σ s → VR s.heap g cg → VRs s.heap args cargs → kw.map (·.1) = ckw.map (·.1) → VRs s.heap (kw.map (·.2)) (ckw.map (·.2)) →
    wpAny C.M f.A (call cg cargs ckw) (EvP C f ρ F s.heap Q) (X F) s

/-- what comes next, each by a name of its own (so that a walk's terms stay small) -/
noncomputable abbrev kO1 (C : Cx) (f : Fx) (X : XT) (ρ : Loc) (t : Value → Sem Value) (Q : V → AH → Prop) : V → AH → Prop := fun a σ₁ => O1 C f X ρ t a σ₁ Q
noncomputable abbrev kO2 (C : Cx) (f : Fx) (X : XT) (ρ : Loc) (t : Value → Value → Sem Value) (a : V) (Q : V → AH → Prop) : V → AH → Prop := fun b σ₂ => O2 C f X ρ t a b σ₂ Q
noncomputable abbrev kR2 (C : Cx) (f : Fx) (X : XT) (ρ : Loc) (t : Value → Value → Sem Value) (r : Expr) (Q : V → AH → Prop) : V → AH → Prop := fun a σ₁ => Ev C f X ρ (eval r f.env) σ₁ (kO2 C f X ρ t a Q)
noncomputable abbrev kT (C : Cx) (f : Fx) (X : XT) (ρ : Loc) (Q : Bool → AH → Prop) : V → AH → Prop := fun a σ₁ => OT C f X ρ a σ₁ Q
noncomputable abbrev kIfE (C : Cx) (f : Fx) (X : XT) (ρ : Loc) (b o : Expr) (Q : V → AH → Prop) : Bool → AH → Prop := fun c σ₁ => if c then Ev C f X ρ (eval b f.env) σ₁ Q else Ev C f X ρ (eval o f.env) σ₁ Q
noncomputable abbrev kNot (Q : Bool → AH → Prop) : Bool → AH → Prop := fun b σ₁ => Q (!b) σ₁
noncomputable abbrev kAnd (C : Cx) (f : Fx) (X : XT) (ρ : Loc) (es : List Expr) (Q : Bool → AH → Prop) : Bool → AH → Prop := fun b σ₁ => if b then Et C f X ρ (allTrue .And es f.env) σ₁ Q else Q false σ₁
noncomputable abbrev kOr (C : Cx) (f : Fx) (X : XT) (ρ : Loc) (es : List Expr) (Q : Bool → AH → Prop) : Bool → AH → Prop := fun b σ₁ => if b then Q true σ₁ else Et C f X ρ (allTrue .Or es f.env) σ₁ Q
noncomputable abbrev kSeq (C : Cx) (f : Fx) (X : XT) (rest : List Stmt) (Q : Fl → Loc → AH → Prop) : Fl → Loc → AH → Prop := fun fl ρ₁ σ₁ => match fl with | .next => Ex C f X ρ₁ (execs rest f.env) σ₁ Q | fl => Q fl ρ₁ σ₁
noncomputable abbrev kRet (ρ : Loc) (Q : Fl → Loc → AH → Prop) : V → AH → Prop := fun v σ₁ => Q (.ret v) ρ σ₁
noncomputable abbrev kIte (C : Cx) (f : Fx) (X : XT) (ρ : Loc) (b o : List Stmt) (Q : Fl → Loc → AH → Prop) : Bool → AH → Prop := fun c σ₁ => if c then Ex C f X ρ (execs b f.env) σ₁ Q else Ex C f X ρ (execs o f.env) σ₁ Q
noncomputable abbrev kNext (ρ : Loc) (Q : Fl → Loc → AH → Prop) : V → AH → Prop := fun _ σ₁ => Q .next ρ σ₁
noncomputable abbrev kNx (Q : Fl → Loc → AH → Prop) : Loc → AH → Prop := fun ρ₂ σ₂ => Q .next ρ₂ σ₂
/-- a value, then something with it -/
noncomputable def AsV (C : Cx) (f : Fx) (X : XT) (ρ : Loc) (t : Value → Sem Unit) (v : V) (σ : AH) (Q : Loc → AH → Prop) : Prop :=
  ∀ F s cv, St C f ρ F σ s → VR s.heap v cv → wpAny C.M f.A (t cv) (AsP C f F s.heap Q) (X F) s
noncomputable abbrev kAs (C : Cx) (f : Fx) (X : XT) (ρ : Loc) (t : Value → Sem Unit) (Q : Loc → AH → Prop) : V → AH → Prop := fun v σ₁ => AsV C f X ρ t v σ₁ Q

section
variable {C : Cx} {f : Fx} {X : XT} {ρ : Loc} {σ : AH}

theorem EvP.trans {F : AH} {h h' : Heap} {Q : V → AH → Prop} (x : Tup h h') {cv : Value} {s' : Shared} : EvP C f ρ F h' Q cv s' → EvP C f ρ F h Q cv s' :=
  fun ⟨v, σ', a, b, c, d⟩ => ⟨v, σ', a, b, x.trans c, d⟩
theorem EtP.trans {F : AH} {h h' : Heap} {Q : Bool → AH → Prop} (x : Tup h h') {b : Bool} {s' : Shared} : EtP C f ρ F h' Q b s' → EtP C f ρ F h Q b s' :=
  fun ⟨σ', a, c, d⟩ => ⟨σ', a, x.trans c, d⟩
theorem ExP.trans {F : AH} {h h' : Heap} {Q : Fl → Loc → AH → Prop} (x : Tup h h') {fl : Flow} {s' : Shared} : ExP C f F h' Q fl s' → ExP C f F h Q fl s' :=
  fun ⟨a, ρ', σ', p, b, c, d⟩ => ⟨a, ρ', σ', p, b, x.trans c, d⟩
/-- a walk goes on -/
theorem Ev.on {t : Sem Value} {Q : V → AH → Prop} (h : Ev C f X ρ t σ Q) {F : AH} {s : Shared} {R : Value → Shared → Prop} (x : St C f ρ F σ s)
    (k : ∀ cv v s₁ σ₁, St C f ρ F σ₁ s₁ → VR s₁.heap v cv → Tup s.heap s₁.heap → Q v σ₁ → R cv s₁) : wpAny C.M f.A t R (X F) s :=
  wpAny_mono (h F s x) (fun cv s₁ ⟨v, σ₁, a, b, c, d⟩ => k cv v s₁ σ₁ a b c d) fun _ _ e => e
theorem Et.on {t : Sem Bool} {Q : Bool → AH → Prop} (h : Et C f X ρ t σ Q) {F : AH} {s : Shared} {R : Bool → Shared → Prop} (x : St C f ρ F σ s)
    (k : ∀ b s₁ σ₁, St C f ρ F σ₁ s₁ → Tup s.heap s₁.heap → Q b σ₁ → R b s₁) : wpAny C.M f.A t R (X F) s :=
  wpAny_mono (h F s x) (fun b s₁ ⟨σ₁, a, c, d⟩ => k b s₁ σ₁ a c d) fun _ _ e => e
theorem El.on {t : Sem (List Value)} {Q : List V → AH → Prop} (h : El C f X ρ t σ Q) {F : AH} {s : Shared} {R : List Value → Shared → Prop} (x : St C f ρ F σ s)
    (k : ∀ cv v s₁ σ₁, St C f ρ F σ₁ s₁ → VRs s₁.heap v cv → Tup s.heap s₁.heap → Q v σ₁ → R cv s₁) : wpAny C.M f.A t R (X F) s :=
  wpAny_mono (h F s x) (fun cv s₁ ⟨v, σ₁, a, b, c, d⟩ => k cv v s₁ σ₁ a b c d) fun _ _ e => e
theorem Ex.on {t : Sem Flow} {Q : Fl → Loc → AH → Prop} (h : Ex C f X ρ t σ Q) {F : AH} {s : Shared} {R : Flow → Shared → Prop} (x : St C f ρ F σ s)
    (k : ∀ fl a s₁ ρ₁ σ₁, St C f ρ₁ F σ₁ s₁ → FlR s₁.heap a fl → Tup s.heap s₁.heap → Q a ρ₁ σ₁ → R fl s₁) : wpAny C.M f.A t R (X F) s :=
  wpAny_mono (h F s x) (fun cv s₁ ⟨v, ρ₁, σ₁, a, b, c, d⟩ => k cv v s₁ ρ₁ σ₁ a b c d) fun _ _ e => e
/-- the same, the heap longer kept -/
theorem Ev.up {t : Sem Value} {Q : V → AH → Prop} (h : Ev C f X ρ t σ Q) {F : AH} {s : Shared} {h₀ : Heap} (x : St C f ρ F σ s) (t₀ : Tup h₀ s.heap) : wpAny C.M f.A t (EvP C f ρ F h₀ Q) (X F) s :=
  wpAny_mono (h F s x) (fun _ _ e => e.trans t₀) fun _ _ e => e
theorem Et.up {t : Sem Bool} {Q : Bool → AH → Prop} (h : Et C f X ρ t σ Q) {F : AH} {s : Shared} {h₀ : Heap} (x : St C f ρ F σ s) (t₀ : Tup h₀ s.heap) : wpAny C.M f.A t (EtP C f ρ F h₀ Q) (X F) s :=
  wpAny_mono (h F s x) (fun _ _ e => e.trans t₀) fun _ _ e => e
theorem Ex.up {t : Sem Flow} {Q : Fl → Loc → AH → Prop} (h : Ex C f X ρ t σ Q) {F : AH} {s : Shared} {h₀ : Heap} (x : St C f ρ F σ s) (t₀ : Tup h₀ s.heap) : wpAny C.M f.A t (ExP C f F h₀ Q) (X F) s :=
  wpAny_mono (h F s x) (fun _ _ e => e.trans t₀) fun _ _ e => e
theorem O1.up {t : Value → Sem Value} {a : V} {Q : V → AH → Prop} (h : O1 C f X ρ t a σ Q) {F : AH} {s : Shared} {h₀ : Heap} {ca : Value} (x : St C f ρ F σ s) (r : VR s.heap a ca) (t₀ : Tup h₀ s.heap) : wpAny C.M f.A (t ca) (EvP C f ρ F h₀ Q) (X F) s :=
  wpAny_mono (h F s ca x r) (fun _ _ e => e.trans t₀) fun _ _ e => e
theorem O2.up {t : Value → Value → Sem Value} {a b : V} {Q : V → AH → Prop} (h : O2 C f X ρ t a b σ Q) {F : AH} {s : Shared} {h₀ : Heap} {ca cb : Value} (x : St C f ρ F σ s) (r : VR s.heap a ca) (r' : VR s.heap b cb) (t₀ : Tup h₀ s.heap) : wpAny C.M f.A (t ca cb) (EvP C f ρ F h₀ Q) (X F) s :=
  wpAny_mono (h F s ca cb x r r') (fun _ _ e => e.trans t₀) fun _ _ e => e
theorem O2.on {t : Value → Value → Sem Value} {a b : V} {Q : V → AH → Prop} (h : O2 C f X ρ t a b σ Q) {F : AH} {s : Shared} {R : Value → Shared → Prop} {ca cb : Value} (x : St C f ρ F σ s) (r : VR s.heap a ca) (r' : VR s.heap b cb)
    (k : ∀ cv v s₁ σ₁, St C f ρ F σ₁ s₁ → VR s₁.heap v cv → Tup s.heap s₁.heap → Q v σ₁ → R cv s₁) : wpAny C.M f.A (t ca cb) R (X F) s :=
  wpAny_mono (h F s ca cb x r r') (fun cv s₁ ⟨v, σ₁, a, b, c, d⟩ => k cv v s₁ σ₁ a b c d) fun _ _ e => e
theorem OT.up {a : V} {Q : Bool → AH → Prop} (h : OT C f X ρ a σ Q) {F : AH} {s : Shared} {h₀ : Heap} {ca : Value} (x : St C f ρ F σ s) (r : VR s.heap a ca) (t₀ : Tup h₀ s.heap) : wpAny C.M f.A (truthy ca) (EtP C f ρ F h₀ Q) (X F) s :=
  wpAny_mono (h F s ca x r) (fun _ _ e => e.trans t₀) fun _ _ e => e

theorem Ev.mono {t : Sem Value} {Q Q' : V → AH → Prop} (h : Ev C f X ρ t σ Q) (hq : ∀ v σ', Q v σ' → Q' v σ') : Ev C f X ρ t σ Q' :=
  fun F s x => wpAny_mono (h F s x) (fun _ _ ⟨v, σ', a, b, c, d⟩ => ⟨v, σ', a, b, c, hq v σ' d⟩) fun _ _ e => e

theorem Ev.const_int {i : Int} {k : Nat} {pos : Pos} {Q : V → AH → Prop} (h : Q (.int i) σ) : Ev C f X ρ (eval (.Constant (.int i) k pos) f.env) σ Q :=
  fun F s x => wpAny_Constant_int ⟨_, _, x.toks _, .int, Tup.refl _, h⟩
theorem Ev.const_str {t : PySem.Str} {l : List Nat} {k : Nat} {pos : Pos} {Q : V → AH → Prop} (e : t = tx l) (h : Q (.str l) σ) : Ev C f X ρ (eval (.Constant (.str t) k pos) f.env) σ Q := by
  subst e
  exact fun F s x => wpAny_Constant_str ⟨_, _, x.toks _, .str, Tup.refl _, h⟩
theorem Ev.const_none {k : Nat} {pos : Pos} {Q : V → AH → Prop} (h : Q .none σ) : Ev C f X ρ (eval (.Constant .none k pos) f.env) σ Q :=
  fun F s x => wpAny_Constant_none ⟨_, _, x, .none, Tup.refl _, h⟩
theorem Ev.const_bool {b : Bool} {k : Nat} {pos : Pos} {Q : V → AH → Prop} (h : Q (.bool b) σ) : Ev C f X ρ (eval (.Constant (.bool b) k pos) f.env) σ Q :=
  fun F s x => wpAny_Constant_bool ⟨_, _, x, .bool, Tup.refl _, h⟩

/-- where a name stands in the scope -/
inductive NameAt : List (PySem.Str × NameKind) → PySem.Str → NameKind → Nat → Prop
  | head {x k r} : NameAt ((x, k) :: r) x k 0
  | tail {e r x k i} : NameAt r x k i → NameAt (e :: r) x k (i + 1)
theorem NameAt.get {l : List (PySem.Str × NameKind)} {x : PySem.Str} {k : NameKind} {i : Nat} (h : NameAt l x k i) : l[i]? = some (x, k) := by
  induction h with
  | head => rfl
  | tail _ ih => simpa using ih
theorem NameAt.name {l : List (PySem.Str × NameKind)} {x : PySem.Str} {k : NameKind} {i : Nat} (h : NameAt l x k i) : (l.map (·.1))[i]? = some x := by
  rw [List.getElem?_map, h.get]; rfl
theorem NameAt.lookup {l : List (PySem.Str × NameKind)} {x : PySem.Str} {k : NameKind} {i : Nat} (h : NameAt l x k i) (hn : (l.map (·.1)).Nodup) : l.lookup x = some k := by
  induction h with
  | head => simp [List.lookup]
  | tail h ih =>
    rename_i e r x k i
    rw [List.map_cons, List.nodup_cons] at hn
    have hx : x ∈ r.map (·.1) := List.mem_of_getElem? h.name
    have : (x == e.1) = false := by
      rw [beq_eq_false_iff_ne]; rintro rfl; exact hn.1 hx
    obtain ⟨e1, e2⟩ := e
    rw [List.lookup_cons, this]; exact ih hn.2

theorem Fx.Ok.at {d : Nat} {ns : List (PySem.Str × NameKind)} {x : PySem.Str} {k : NameKind} {i : Nat} (ok : f.Ok d ns) (hi : NameAt ns x k i) : NameAt f.env.scope.names x k i := ok.names ▸ hi
theorem Ev.name_local {d : Nat} {ns : List (PySem.Str × NameKind)} {x : PySem.Str} {pos : Pos} {i : Nat} {v : V} {Q : V → AH → Prop} (ok : f.Ok d ns) (hi : NameAt ns x .local i) (hv : ρ[i]? = some (some v)) (h : Q v σ)
    (hd : (x == ("__debug__" : PySem.Str)) = false := by decide) : Ev C f X ρ (eval (.Name x pos) f.env) σ Q := fun F s y => by
  obtain ⟨m, hm, hr⟩ := y.locals
  obtain ⟨cv, e, r⟩ := hr i x v (ok.at hi).name hv
  exact wpAny_Name (wpAny_loadName_local ok.kind ((ok.at hi).lookup ok.nd) hm e ⟨v, σ, y, r, Tup.refl _, h⟩) hd

theorem Ev.binop {l r : Expr} {op : Operator} {pos : Pos} {Q : V → AH → Prop}
    (h : Ev C f X ρ (eval l f.env) σ (kR2 C f X ρ (binaryOp op) r Q)) : Ev C f X ρ (eval (.BinOp l op r pos) f.env) σ Q :=
  fun F s x => wpAny_BinOp (h.on x fun ca a s₁ σ₁ x₁ r₁ t₁ h₁ => h₁.on x₁ fun cb b s₂ σ₂ x₂ r₂ t₂ h₂ => h₂.up x₂ (r₁.mono t₂) r₂ (t₁.trans t₂))
theorem Ev.unop {e : Expr} {op : UnaryOp} {pos : Pos} {Q : V → AH → Prop}
    (h : Ev C f X ρ (eval e f.env) σ (kO1 C f X ρ (unaryOp op) Q)) : Ev C f X ρ (eval (.UnaryOp op e pos) f.env) σ Q :=
  fun F s x => wpAny_UnaryOp (h.on x fun ca a s₁ σ₁ x₁ r₁ t₁ h₁ => h₁.up x₁ r₁ t₁)
theorem Ev.compare1 {l r : Expr} {op : CmpOp} {pos : Pos} {Q : V → AH → Prop}
    (h : Ev C f X ρ (eval l f.env) σ (kR2 C f X ρ (compareOp op) r Q))
    (hm : behindInMarks op r = false := by with_unfolding_all rfl) : Ev C f X ρ (eval (.Compare l [op] [r] pos) f.env) σ Q :=
  fun F s x => wpAny_Compare1 (h.on x fun ca a s₁ σ₁ x₁ r₁ t₁ h₁ => h₁.on x₁ fun cb b s₂ σ₂ x₂ r₂ t₂ h₂ => h₂.up x₂ (r₁.mono t₂) r₂ (t₁.trans t₂)) hm
theorem Ev.ifexp {t b o : Expr} {pos : Pos} {Q : V → AH → Prop}
    (h : Et C f X ρ (isTrue t f.env (eval t f.env)) σ (kIfE C f X ρ b o Q)) : Ev C f X ρ (eval (.IfExp t b o pos) f.env) σ Q :=
  fun F s x => wpAny_IfExp (h.on x fun c s₁ σ₁ x₁ t₁ h₁ => by
    cases c
    · exact h₁.up x₁ t₁
    · exact h₁.up x₁ t₁)

theorem Et.compare1 {l r : Expr} {op : CmpOp} {pos : Pos} {wh : Sem Value} {Q : Bool → AH → Prop}
    (h : Ev C f X ρ (eval l f.env) σ (kR2 C f X ρ (compareOp op) r (kT C f X ρ Q)))
    (hm : behindInMarks op r = false := by with_unfolding_all rfl) : Et C f X ρ (isTrue (.Compare l [op] [r] pos) f.env wh) σ Q :=
  fun F s x => wpAny_isTrue_Compare1 (h.on x fun ca a s₁ σ₁ x₁ r₁ t₁ h₁ => h₁.on x₁ fun cb b s₂ σ₂ x₂ r₂ t₂ h₂ => h₂.on x₂ (r₁.mono t₂) r₂ fun cc c s₃ σ₃ x₃ r₃ t₃ h₃ => h₃.up x₃ r₃ ((t₁.trans t₂).trans t₃)) hm
theorem Et.not {e : Expr} {pos : Pos} {wh : Sem Value} {Q : Bool → AH → Prop} (h : Et C f X ρ (isTrue e f.env (eval e f.env)) σ (kNot Q)) :
    Et C f X ρ (isTrue (.UnaryOp .Not e pos) f.env wh) σ Q := fun F s x => wpAny_isTrue_Not (h.on x fun b s₁ σ₁ x₁ t₁ h₁ => ⟨σ₁, x₁, t₁, h₁⟩)
theorem Et.boolop {op : BoolOp} {es : List Expr} {pos : Pos} {wh : Sem Value} {Q : Bool → AH → Prop} (h : Et C f X ρ (allTrue op es f.env) σ Q) :
    Et C f X ρ (isTrue (.BoolOp op es pos) f.env wh) σ Q := fun F s x => wpAny_isTrue_BoolOp (h F s x)
theorem Et.and_nil {Q : Bool → AH → Prop} (h : Q true σ) : Et C f X ρ (allTrue .And [] f.env) σ Q := fun F s x => wpAny_allTrue_And_nil ⟨σ, x, Tup.refl _, h⟩
theorem Et.or_nil {Q : Bool → AH → Prop} (h : Q false σ) : Et C f X ρ (allTrue .Or [] f.env) σ Q := fun F s x => wpAny_allTrue_Or_nil ⟨σ, x, Tup.refl _, h⟩
theorem Et.and_cons {e : Expr} {es : List Expr} {Q : Bool → AH → Prop} (h : Et C f X ρ (isTrue e f.env (eval e f.env)) σ (kAnd C f X ρ es Q)) :
    Et C f X ρ (allTrue .And (e :: es) f.env) σ Q := fun F s x => wpAny_allTrue_And_cons (h.on x fun c s₁ σ₁ x₁ t₁ h₁ => by
    cases c
    · exact ⟨σ₁, x₁, t₁, h₁⟩
    · exact h₁.up x₁ t₁)
theorem Et.or_cons {e : Expr} {es : List Expr} {Q : Bool → AH → Prop} (h : Et C f X ρ (isTrue e f.env (eval e f.env)) σ (kOr C f X ρ es Q)) :
    Et C f X ρ (allTrue .Or (e :: es) f.env) σ Q := fun F s x => wpAny_allTrue_Or_cons (h.on x fun c s₁ σ₁ x₁ t₁ h₁ => by
    cases c
    · exact h₁.up x₁ t₁
    · exact ⟨σ₁, x₁, t₁, h₁⟩)
theorem Et.value {e : Expr} {wh : Sem Value} {Q : Bool → AH → Prop} (h : Ev C f X ρ wh σ (kT C f X ρ Q))
    (he : isTrue e f.env wh = (do let v ← wh; standAt e.pos; holding [v] (truthy v)) := by with_unfolding_all rfl) : Et C f X ρ (isTrue e f.env wh) σ Q :=
  fun F s x => wpAny_isTrue_value (h.on x fun ca a s₁ σ₁ x₁ r₁ t₁ h₁ => h₁.up x₁ r₁ t₁) he

/-- statements -/
theorem Ex.nil {Q : Fl → Loc → AH → Prop} (h : Q .next ρ σ) : Ex C f X ρ (execs [] f.env) σ Q := fun F s x => wpAny_execs_nil ⟨.next, ρ, σ, x, trivial, Tup.refl _, h⟩
theorem Ex.mono {t : Sem Flow} {Q Q' : Fl → Loc → AH → Prop} (h : Ex C f X ρ t σ Q) (hq : ∀ a ρ' σ', Q a ρ' σ' → Q' a ρ' σ') : Ex C f X ρ t σ Q' :=
  fun F s x => wpAny_mono (h F s x) (fun _ _ ⟨v, ρ', σ', a, b, c, d⟩ => ⟨v, ρ', σ', a, b, c, hq v ρ' σ' d⟩) fun _ _ e => e
theorem Ex.cons {st : Stmt} {rest : List Stmt} {Q : Fl → Loc → AH → Prop}
    (h : Ex C f X ρ (exec st f.env) σ (kSeq C f X rest Q)) : Ex C f X ρ (execs (st :: rest) f.env) σ Q :=
  fun F s x => wpAny_execs_cons (h.on x fun fl a s₁ ρ₁ σ₁ x₁ r₁ t₁ h₁ => by
    cases a <;> cases fl <;> first
      | exact r₁.elim
      | exact ⟨_, ρ₁, σ₁, x₁, r₁, t₁, h₁⟩
      | exact h₁.up x₁ t₁)
theorem Ex.brk {pos : Pos} {Q : Fl → Loc → AH → Prop} (h : Q .brk ρ σ) : Ex C f X ρ (exec (.Break pos) f.env) σ Q := fun F s x => wpAny_Break ⟨.brk, ρ, σ, x, trivial, Tup.refl _, h⟩
theorem Ex.cont {pos : Pos} {Q : Fl → Loc → AH → Prop} (h : Q .cont ρ σ) : Ex C f X ρ (exec (.Continue pos) f.env) σ Q := fun F s x => wpAny_Continue ⟨.cont, ρ, σ, x, trivial, Tup.refl _, h⟩
theorem Ex.ret {e : Expr} {pos : Pos} {Q : Fl → Loc → AH → Prop} (h : Ev C f X ρ (eval e f.env) σ (kRet ρ Q)) : Ex C f X ρ (exec (.Return (some e) pos) f.env) σ Q :=
  fun F s x => wpAny_Return_some (h.on x fun cv v s₁ σ₁ x₁ r₁ t₁ h₁ => ⟨.ret v, ρ, σ₁, x₁, r₁, t₁, h₁⟩)
theorem Ex.ite {t : Expr} {b o : List Stmt} {pos : Pos} {Q : Fl → Loc → AH → Prop}
    (h : Et C f X ρ (isTrue t f.env (eval t f.env)) σ (kIte C f X ρ b o Q)) : Ex C f X ρ (exec (.If t b o pos) f.env) σ Q :=
  fun F s x => wpAny_If (h.on x fun c s₁ σ₁ x₁ t₁ h₁ => by
    cases c
    · exact h₁.up x₁ t₁
    · exact h₁.up x₁ t₁)
theorem Ex.expr {e : Expr} {pos : Pos} {Q : Fl → Loc → AH → Prop} (h : Ev C f X ρ (eval e f.env) σ (kNext ρ Q))
    (hi : interactive f.env = false) (hs : swapsWith e none pos.line f.env = pure false) : Ex C f X ρ (exec (.Expr e pos) f.env) σ Q :=
  fun F s x => wpAny_Expr_any (h.on x fun cv v s₁ σ₁ x₁ r₁ t₁ h₁ => ⟨.next, ρ, σ₁, x₁, trivial, t₁, h₁⟩) hi hs

theorem wpAny_assignAll_one {M : Model} {A : Around} {E : Value → Shared → Prop} {s : Shared} {v : Value} {t : Value → Sem Unit} {Q : Unit → Shared → Prop} (h : wpAny M A (t v) Q E s) : wpAny M A (assignAll v [t]) Q E s := h

theorem Ex.assign {t value : Expr} {pos : Pos} {Q : Fl → Loc → AH → Prop}
    (h : Ev C f X ρ (eval value f.env) σ (kAs C f X ρ (assign t f.env) (kNx Q)))
    (hst : assignEach [t] f.env = [(false, assign t f.env)])
    (hs : swapsWithSole [t] value pos.line f.env = pure false) (hw : swappedStores [t] value f.env = pure none) : Ex C f X ρ (exec (.Assign [t] value pos) f.env) σ Q :=
  fun F s x => wpAny_Assign_stores (wpAny_mono (h F s x) (fun cv s₁ ⟨v, σ₁, x₁, r₁, t₁, h₁⟩ => by
    rw [hst]
    exact wpAny_assignAll_one (wpAny_mono (h₁ F s₁ cv x₁ r₁) (fun _ _ ⟨ρ₂, σ₂, p, q, r⟩ => ⟨.next, ρ₂, σ₂, p, trivial, t₁.trans q, r⟩) fun _ _ e => e)) fun _ _ e => e) hs hw

theorem AsV.name {d : Nat} {ns : List (PySem.Str × NameKind)} {x : PySem.Str} {pos : Pos} {i : Nat} {v : V} {Q : Loc → AH → Prop} (ok : f.Ok d ns) (hi : NameAt ns x .local i) (h : Q (ρ.set i (some v)) σ) :
    AsV C f X ρ (assign (.Name x pos) f.env) v σ Q := fun F s cv y r => by
  obtain ⟨m, hm, hr⟩ := y.locals
  have hp : (f.env.scope.kind == .class || (f.env.scope.kind == .module && f.env.locals != f.env.globals)) = false := by rw [ok.kind]; rfl
  refine wpAny_assign_Name (wpAny_storeName_local ((ok.at hi).lookup ok.nd) hm (fun h' hn hs => ?_) hp)
  have z := y.store ok.nd (ok.at hi).name r hm hr hn hs (s.toks + 1)
  exact ⟨_, σ, z.1, z.2, h⟩

end
end Mine

namespace Mine
theorem plainAttrs_deque : PlainAttrs "collections.deque" :=
  ⟨⟨"collections.deque.__getattribute__", by rw [typeLookup_type, builtinLookup_eq_fast]; kernel_rfl, by decide +kernel⟩, by rw [typeLookup_type, builtinLookup_eq_fast]; kernel_rfl⟩
theorem owner_deque : Manifest.owners.lookup (String.ofList ['e', 'u', 'q', 'e', 'd', '.', 's', 'n', 'o', 'i', 't', 'c', 'e', 'l', 'l', 'o', 'c'].reverse) = some Manifest.sig_collections_deque := by kernel_rfl
theorem deque_no_bool : typeLookup (.type "collections.deque") "__bool__" = pure none := by rw [typeLookup_type, builtinLookup_eq_fast]; kernel_rfl
theorem slot_deque_appendleft : Slot "collections.deque" "appendleft" "collections.deque.appendleft" :=
  .of (owner := "collections.deque") (n := "appendleft") (by rw [typeLookup_type, builtinLookup_eq_fast]; kernel_rfl) (by decide +kernel) (by decide +kernel) (by decide +kernel)
    (by first | exact .inl (by decide +kernel) | exact .inr (by decide +kernel)) (by rw [isSubtype_type]; kernel_rfl)
theorem entry_deque_appendleft : entryFor table "collections.deque.appendleft" = some Builtin.«collections.deque.appendleft» := entryFor_of_tree (by kernel_rfl)
theorem args_deque_appendleft (a b : Value) : argsOk "collections.deque.appendleft" ⟨[a, b], []⟩ := by
  unfold argsOk; rw [signature?_of (id := "collections.deque.appendleft") (n := ['t', 'f', 'e', 'l', 'd', 'n', 'e', 'p', 'p', 'a']) (o := ['e', 'u', 'q', 'e', 'd', '.', 's', 'n', 'o', 'i', 't', 'c', 'e', 'l', 'l', 'o', 'c']) (by kernel_rfl) owner_deque]; kernel_rfl
theorem type_deque_appendleft : typeOf (.builtin "collections.deque.appendleft") = pure (.type "method_descriptor") := by show builtinType _ = _; rw [builtinType_eq_fast]; kernel_rfl
theorem slot_deque_len : Slot "collections.deque" "__len__" "collections.deque.__len__" :=
  .of (owner := "collections.deque") (n := "__len__") (by rw [typeLookup_type, builtinLookup_eq_fast]; kernel_rfl) (by decide +kernel) (by decide +kernel) (by decide +kernel)
    (by first | exact .inl (by decide +kernel) | exact .inr (by decide +kernel)) (by rw [isSubtype_type]; kernel_rfl)
theorem entry_deque_len : entryFor table "collections.deque.__len__" = some Builtin.«collections.deque.__len__» := entryFor_of_tree (by kernel_rfl)
theorem args_deque_len (a : Value) : argsOk "collections.deque.__len__" ⟨[a], []⟩ := by
  unfold argsOk; rw [signature?_of (id := "collections.deque.__len__") (n := ['_', '_', 'n', 'e', 'l', '_', '_']) (o := ['e', 'u', 'q', 'e', 'd', '.', 's', 'n', 'o', 'i', 't', 'c', 'e', 'l', 'l', 'o', 'c']) (by kernel_rfl) owner_deque]; kernel_rfl
end Mine

namespace Mine
noncomputable abbrev dqObj (k : Int) (cvs : List Value) : Obj := ⟨.type "collections.deque", none, .fields (List.toArray (.none :: rawInt k :: cvs)), #[]⟩

section
variable {M : Model} {A : Around} {E : Value → Shared → Prop} {s : Shared}
theorem dq_items {a : Addr} {k : Int} {cvs : List Value} {Q : Array Value → Shared → Prop} (ho : s.heap.get? a = some (dqObj k cvs)) (h : Q (List.toArray cvs) s) : wpAny M A (Builtin.Deque.items (.ref a)) Q E s := by
  unfold Builtin.Deque.items
  refine wpAny_bind (wpAny_fieldsOf ho rfl (wpAny_pure ?_))
  simpa using h
theorem dq_size {a : Addr} {k : Int} {cvs : List Value} {Q : Nat → Shared → Prop} (ho : s.heap.get? a = some (dqObj k cvs)) (h : Q cvs.length s) : wpAny M A (Builtin.Deque.size (.ref a)) Q E s := by
  unfold Builtin.Deque.size
  refine wpAny_bind (wpAny_fieldsOf ho rfl (wpAny_pure ?_))
  simpa using h
theorem dq_maxlen {a : Addr} {k : Int} {cvs : List Value} {Q : Option Nat → Shared → Prop} (ho : s.heap.get? a = some (dqObj k cvs)) (h : Q none s) : wpAny M A (Builtin.Deque.maxlen (.ref a)) Q E s := by
  unfold Builtin.Deque.maxlen
  exact wpAny_bind (wpAny_field ho rfl (x := .none) rfl (wpAny_pure h))
theorem dq_change {a : Addr} {k : Int} {cvs : List Value} {g : Array Value → Array Value} {Q : Unit → Shared → Prop} (ho : s.heap.get? a = some (dqObj k cvs)) (hz : (g (List.toArray cvs)).size ≤ sizeLine)
    (h : ∀ h', h'.get? a = some (dqObj (k + 1) (g (List.toArray cvs)).toList) → Heap.SameBut a s.heap h' → Q () { s with heap := h' }) : wpAny M A (Builtin.Deque.change (.ref a) g) Q E s := by
  unfold Builtin.Deque.change Builtin.Deque.state
  refine wpAny_bind (wpAny_bind (wpAny_field ho rfl (x := rawInt k) rfl (wpAny_pure ?_)))
  refine wpAny_updateFields ho rfl (h _ ?_ (Heap.SameBut.update ..)) ?_
  · have := Heap.get?_update_self (h := s.heap) (Obj.mapFields fun vs => #[vs.getD 0 .none, rawInt (if true then k + 1 else k)] ++ g (vs.extract 2 vs.size)) ho rfl
    refine this.trans ?_
    simp [Obj.mapFields, dqObj]
  · simp only [Array.size_append]
    have : (List.toArray (Value.none :: rawInt k :: cvs)).extract 2 (List.toArray (Value.none :: rawInt k :: cvs)).size = List.toArray cvs := by simp
    rw [this]
    simp; omega
end

section
variable {C : Cx} {f : Fx} {X : XT} {ρ : Loc} {σ : AH} {d : Nat}
theorem St.typeIs {F : AH} {s : Shared} {a : Addr} {vs : List V} (x : St C f ρ F σ s) (h : σ a = some (.deque vs)) : s.TypeIs (.ref a) "collections.deque" := by
  obtain ⟨cvs, k, ho, _⟩ := x.obj h
  exact ⟨_, ho, rfl⟩
theorem VRs.one {h : Heap} {v : V} {cvs : List Value} (x : VRs h [v] cvs) : ∃ c, cvs = [c] ∧ VR h v c := by
  cases x with | cons a b => cases b; exact ⟨_, rfl, a⟩
theorem VRs.two {h : Heap} {v w : V} {cvs : List Value} (x : VRs h [v, w] cvs) : ∃ c e, cvs = [c, e] ∧ VR h v c ∧ VR h w e := by
  cases x with | cons a b => obtain ⟨e, rfl, z⟩ := b.one; exact ⟨_, e, rfl, a, z⟩
theorem VR.refI {h : Heap} {a : Addr} {c : Value} (x : VR h (.ref a) c) : c = .ref a := by cases x; rfl
theorem VR.statI {h : Heap} {v c : Value} (x : VR h (.stat v) c) : c = v := by cases x; rfl
theorem VR.strI {h : Heap} {l : List Nat} {c : Value} (x : VR h (.str l) c) : ∃ t, c = .str (tx l) t := by cases x; exact ⟨_, rfl⟩
theorem VR.intI {h : Heap} {i : Int} {c : Value} (x : VR h (.int i) c) : ∃ t, c = .int i t := by cases x; exact ⟨_, rfl⟩
theorem VR.boolI {h : Heap} {b : Bool} {c : Value} (x : VR h (.bool b) c) : c = .bool b := by cases x; rfl
theorem VR.noneI {h : Heap} {c : Value} (x : VR h .none c) : c = .none := by cases x; rfl
theorem VR.tupI {h : Heap} {vs : List V} {c : Value} (x : VR h (.tup vs) c) : ∃ a cvs, c = .ref a ∧ h.IsTuple a (List.toArray cvs) ∧ VRs h vs cvs := by cases x; exact ⟨_, _, rfl, by assumption, by assumption⟩

theorem kw_nil {kw : List (PySem.Str × Value)} (h : ([] : List (PySem.Str × V)).map (·.1) = kw.map (·.1)) : kw = [] := by cases kw with | nil => rfl | cons a b => simp at h
/-- a call of a built-in with these arguments -/
theorem OC.builtin {id : String} {args : List V} {Q : V → AH → Prop}
    (h : ∀ F s cargs, St C f ρ F σ s → VRs s.heap args cargs → wpAny C.M f.A (call (.builtin id) cargs) (EvP C f ρ F s.heap Q) (X F) s) : OC C f X ρ (.stat (.builtin id)) args [] σ Q := by
  intro F s cg cargs ckw x hg ha hk _
  cases hg.statI
  obtain rfl := kw_nil hk
  exact h F s cargs x ha

theorem OC.deque_appendleft {a : Addr} {v : V} {vs : List V} {Q : V → AH → Prop} (ha : σ a = some (.deque vs)) (hsz : vs.length ≤ 1000000) (h : Q .none (σ.set a (.deque (v :: vs)))) :
    OC C f X ρ (.stat (.builtin "collections.deque.appendleft")) [.ref a, v] [] σ Q := OC.builtin fun F s cargs x r => by
  obtain ⟨_, cv, rfl, r', hv⟩ := r.two; cases r'.refI
  obtain ⟨cvs, k, ho, hr⟩ := x.obj ha
  refine wpAny_call_entry slot_deque_appendleft (x.typeIs ha) entry_deque_appendleft ?_ (args_deque_appendleft _ _)
  unfold Builtin.«collections.deque.appendleft»
  refine wpAny_bind (m := selfAndOne "deque.appendleft" _) (wpAny_pure ?_)
  show wpAny _ _ (Builtin.Deque.pushLeft (.ref a) cv >>= fun _ => ret .none) _ _ s
  unfold Builtin.Deque.pushLeft
  refine wpAny_bind (wpAny_bind (dq_change ho (by have := hr.length; simp; rw [sizeLine_eq]; omega) fun h' hg hs => wpAny_bind (dq_maxlen (s := { s with heap := h' }) hg (wpAny_pure (wpAny_pure ⟨.none, rfl, ?_⟩)))))
  have tp := (x.obj ha).tup hs
  have z := x.upd (o' := .deque (v :: vs)) ha hs ⟨cv :: cvs, k + 1, by rw [hg]; simp, .cons (hv.mono tp) (hr.mono tp)⟩ s.toks
  exact ⟨_, _, z.1, .none, z.2, h⟩
theorem OT.deque {a : Addr} {vs : List V} {Q : Bool → AH → Prop} (ha : σ a = some (.deque vs)) (hsz : vs.length ≤ 1000000) (h : Q (!vs.isEmpty) σ) : OT C f X ρ (.ref a) σ Q := by
  intro F s ca x r
  cases r.refI
  obtain ⟨cvs, k, ho, hr⟩ := x.obj ha
  have hT := x.typeIs ha
  have hne : ((vs.length : Int) != 0) = !vs.isEmpty := by
    cases vs with
    | nil => rfl
    | cons a l => simp only [List.length_cons, List.isEmpty_cons, Bool.not_false, bne_iff_ne, ne_eq]; omega
  have hl := hr.length
  have key : wpAny C.M f.A (runValue (.builtin "len" ⟨[.ref a], []⟩)) (fun r s' => r = .int vs.length (s.toks + 1) ∧ s' = { s with toks := s.toks + 1 + 1 }) (X F) s := by
    refine wpAny_runValue (codeAny_builtin entry_len ?_)
    rw [Around.under_plainId plain_len _]
    refine wpAny_mono (Q := fun fin s' => ∃ r, fin = Fin.done (.ret r) ∧ r = .int vs.length (s.toks + 1) ∧ s' = { s with toks := s.toks + 1 + 1 }) ?_ (fun fin s' h' => by obtain ⟨r, rfl, hq⟩ := h'; exact hq) fun _ _ e => e
    unfold Builtin.«len»
    refine wpAny_bind (m := oneArg "len" _) (wpAny_pure ?_)
    refine wpAny_bind (m := callSpecial? (.ref a) (Str.ofString "__len__")) (wpAny_callSpecial?_slot (name := Str.ofString "__len__") hT slot_deque_len
      (wpAny_call_entry slot_deque_len hT entry_deque_len ?_ (args_deque_len _)))
    show wpAny _ _ (do retInt (← Builtin.Deque.size (.ref a))) _ _ s
    refine wpAny_bind (dq_size ho (wpAny_bind (wpAny_mkInt (wpAny_pure ⟨_, rfl, ?_⟩))))
    rw [← hl]
    refine wpAny_bind (wpAny_holding (wpAny_pure ?_))
    refine wpAny_bind (wpAny_letGo ?_)
    show wpAny _ _ (if ((vs.length : Nat) : Int) < 0 then _ else _) _ _ _
    rw [if_neg (by omega)]
    show wpAny _ _ (if ((vs.length : Nat) : Int) ≥ 2 ^ 63 then _ else _) _ _ _
    rw [if_neg (by omega)]
    exact wpAny_bind (wpAny_mkInt (wpAny_pure ⟨_, rfl, rfl, rfl⟩))
  unfold truthy
  first
    | refine wpAny_bind (wpAny_callSpecial?_none (name := Str.ofString "__bool__") hT deque_no_bool ?_)
    | refine wpAny_bind (wpAny_pure (wpAny_bind (wpAny_callSpecial?_none (name := Str.ofString "__bool__") hT deque_no_bool ?_)))
  first
    | refine wpAny_bind (wpAny_specialOf (name := Str.ofString "__len__") hT slot_deque_len.lookup ?_)
    | refine wpAny_bind (wpAny_pure (wpAny_bind (wpAny_specialOf (name := Str.ofString "__len__") hT slot_deque_len.lookup ?_)))
  refine wpAny_bind (wpAny_mono key (fun r s' h' => ?_) fun _ _ e => e)
  obtain ⟨rfl, rfl⟩ := h'
  refine wpAny_pure ?_
  rw [hne]
  exact ⟨σ, x.toks _, Tup.refl _, h⟩
end
end Mine

namespace Mine

noncomputable def NoX : XT := fun _ _ _ => False

section
variable {C : Cx} {f : Fx} {X : XT} {ρ : Loc} {σ : AH} {d : Nat} {ns : List (PySem.Str × NameKind)}

theorem Cx.inK {F : AH} {s : Shared} (x : St C f ρ F σ s) : C.K.In s.heap := C.X.keeps x.sat.keep

/-- a global name -/
theorem Ev.name_glob {x : PySem.Str} {pos : Pos} {i : Nat} {v : Value} {Q : V → AH → Prop} (ok : f.Ok d ns) (hi : NameAt ns x .globalImplicit i) (e : nsIn C.K mainGlobals x = some (some v)) (h : Q (.stat v) σ)
    (hd : (x == ("__debug__" : PySem.Str)) = false := by decide) : Ev C f X ρ (eval (.Name x pos) f.env) σ Q := fun F s y =>
  Name_function_global ok.kind ((ok.at hi).lookup ok.nd) (loadGlobal_global (mg := C.mg) (by rw [ok.globals]; exact C.g.keeps y.sat.keep) (mg_of C.X C.g e) ⟨_, _, y, .stat, Tup.refl _, h⟩) hd
theorem Ev.name_builtin {x : PySem.Str} {pos : Pos} {i : Nat} {v : Value} {Q : V → AH → Prop} (ok : f.Ok d ns) (hi : NameAt ns x .globalImplicit i) (e : nsIn C.K mainGlobals x = some none)
    (hv : bootBuiltins x = some v) (hn : x ≠ "__name__") (h : Q (.stat v) σ)
    (hd : (x == ("__debug__" : PySem.Str)) = false := by decide) : Ev C f X ρ (eval (.Name x pos) f.env) σ Q := fun F s y =>
  Name_function_global ok.kind ((ok.at hi).lookup ok.nd) (loadGlobal_builtin (mg := C.mg) (mb := C.mb) (by rw [ok.globals]; exact C.g.keeps y.sat.keep) (mg_none_of C.X C.g e)
    (by rw [ok.builtins]; exact C.b.keeps y.sat.keep) ((C.builtins x hn).trans hv) ⟨_, _, y, .stat, Tup.refl _, h⟩) hd

/-- the values of a list of expressions -/
theorem El.nil {Q : List V → AH → Prop} (h : Q [] σ) {pos : Pos} : El C f X ρ (spliced (backTo pos (starEach [] f.env))) σ Q := fun F s x => spliced_nil ⟨[], σ, x, .nil, Tup.refl _, h⟩
noncomputable abbrev kCons (v : V) (Q : List V → AH → Prop) : List V → AH → Prop := fun vs σ₂ => Q (v :: vs) σ₂
noncomputable abbrev kEl (C : Cx) (f : Fx) (X : XT) (ρ : Loc) (es : List Expr) (pos : Pos) (Q : List V → AH → Prop) : V → AH → Prop := fun v σ₁ => El C f X ρ (spliced (backTo pos (starEach es f.env))) σ₁ (kCons v Q)
theorem El.cons {e : Expr} {es : List Expr} {pos : Pos} {Q : List V → AH → Prop}
    (h : Ev C f X ρ (eval e f.env) σ (kEl C f X ρ es pos Q))
    (he : starEach (e :: es) f.env = (false, eval e f.env) :: starEach es f.env := by with_unfolding_all rfl) : El C f X ρ (spliced (backTo pos (starEach (e :: es) f.env))) σ Q := fun F s x => by
  rw [he]
  exact spliced_cons (h.on x fun cv v s₁ σ₁ x₁ r₁ t₁ h₁ => h₁.on x₁ fun cvs vs s₂ σ₂ x₂ r₂ t₂ h₂ => ⟨v :: vs, σ₂, x₂, .cons (r₁.mono t₂) r₂, t₁.trans t₂, h₂⟩)
/-- keywords -/
inductive EkP (C : Cx) (f : Fx) (ρ : Loc) (F : AH) (h : Heap) (ns : List PySem.Str) (Q : List (PySem.Str × V) → AH → Prop) (cvs : List Value) (s' : Shared) : Prop
  | mk (vs : List (PySem.Str × V)) (σ' : AH) (a : St C f ρ F σ' s') (e : vs.map (·.1) = ns) (b : VRs s'.heap (vs.map (·.2)) cvs) (c : Tup h s'.heap) (d : Q vs σ') : EkP C f ρ F h ns Q cvs s'
noncomputable def Ek (C : Cx) (f : Fx) (X : XT) (ρ : Loc) (t : List (Option PySem.Str × Sem Value)) (σ : AH) (Q : List (PySem.Str × V) → AH → Prop) : Prop :=
  t.all (·.1.isSome) = true ∧ ∀ F s, St C f ρ F σ s → wpAny C.M f.A (evalAll (t.map (·.2))) (EkP C f ρ F s.heap (t.filterMap (·.1)) Q) (X F) s
theorem Ek.nil {Q : List (PySem.Str × V) → AH → Prop} {pos : Pos} (h : Q [] σ) : Ek C f X ρ (backToKw pos (keywordEach [] f.env)) σ Q :=
  ⟨rfl, fun F s x => wpAny_evalAll_nil ⟨[], σ, x, rfl, .nil, Tup.refl _, h⟩⟩
noncomputable abbrev kKw (n : PySem.Str) (v : V) (Q : List (PySem.Str × V) → AH → Prop) : List (PySem.Str × V) → AH → Prop := fun vs σ₂ => Q ((n, v) :: vs) σ₂
noncomputable abbrev kEk (C : Cx) (f : Fx) (X : XT) (ρ : Loc) (n : PySem.Str) (ks : List Keyword) (pos : Pos) (Q : List (PySem.Str × V) → AH → Prop) : V → AH → Prop := fun v σ₁ => Ek C f X ρ (backToKw pos (keywordEach ks f.env)) σ₁ (kKw n v Q)
theorem Ek.on {t : List (Option PySem.Str × Sem Value)} {Q : List (PySem.Str × V) → AH → Prop} (h : Ek C f X ρ t σ Q) {F : AH} {s : Shared} {R : List Value → Shared → Prop} (x : St C f ρ F σ s)
    (k : ∀ cvs vs s₁ σ₁, St C f ρ F σ₁ s₁ → vs.map (·.1) = t.filterMap (·.1) → VRs s₁.heap (vs.map (·.2)) cvs → Tup s.heap s₁.heap → Q vs σ₁ → R cvs s₁) : wpAny C.M f.A (evalAll (t.map (·.2))) R (X F) s :=
  wpAny_mono (h.2 F s x) (fun cv s₁ ⟨v, σ₁, a, e, b, c, d⟩ => k cv v s₁ σ₁ a e b c d) fun _ _ e => e
theorem Ek.cons {n : PySem.Str} {e : Expr} {p pos : Pos} {ks : List Keyword} {Q : List (PySem.Str × V) → AH → Prop} (hr : (backToKw pos (keywordEach ks f.env)).all (·.1.isSome) = true)
    (h : Ev C f X ρ (eval e f.env) σ (kEk C f X ρ n ks pos Q)) :
    Ek C f X ρ (backToKw pos (keywordEach (⟨some n, e, p⟩ :: ks) f.env)) σ Q :=
  ⟨(congrArg (true && ·) hr : _), fun F s x => wpAny_evalAll_cons (wpAny_bind (h.on x fun cv v s₁ σ₁ x₁ r₁ t₁ h₁ => wpAny_bind (wpAny_standAt (wpAny_pure
    (h₁.on x₁ fun cvs vs s₂ σ₂ x₂ e₂ r₂ t₂ h₂ => ⟨(n, v) :: vs, σ₂, x₂, congrArg (n :: ·) e₂, .cons (r₁.mono t₂) r₂, t₁.trans t₂, h₂⟩)))))⟩

theorem evalArgs_gen {M : Model} {A : Around} {E : Value → Shared → Prop} {s : Shared} {g : Value} {args : List (Bool × Sem Value)} {keywords : List (Option PySem.Str × Sem Value)} {Q : Args → Shared → Prop}
    (hplain : args.any (·.1) = false) (hall : keywords.all (·.1.isSome) = true)
    (h : wpAny M A (spliced args) (fun vs s₁ => wpAny M A (evalAll (keywords.map (·.2))) (fun ks s₂ => Q ⟨vs, (keywords.filterMap (·.1)).zip ks⟩ s₂) E s₁) E s) : wpAny M A (evalArgs g true args keywords) Q E s := by
  have key : evalArgs g true args keywords = evalArgs g false args keywords := by
    cases args with
    | nil => rfl
    | cons a as =>
      obtain ⟨b, x⟩ := a
      cases b with
      | false => cases as <;> rfl
      | true => simp at hplain
  rw [key]
  unfold evalArgs
  refine wpAny_bind (wpAny_mono h (fun vs s₁ h₁ => wpAny_bind (wpAny_pure ?_)) fun _ _ e => e)
  refine wpAny_holding ?_
  dsimp only
  rw [if_pos hall]
  refine wpAny_bind (wpAny_mono h₁ (fun ks s₂ h₂ => ?_) fun _ _ e => e)
  exact wpAny_bind (wpAny_pure (wpAny_pure h₂))

/-- what may be called without being held by another -/
noncomputable def Keeps (C : Cx) (g : V) : Prop := ∀ (h : Heap) (cg : Value), (∀ b o, C.base.get? b = some o → h.get? b = some o) → VR h g cg → ∃ k, (k = Keeper.frame ∨ k = Keeper.machine ∨ k = Keeper.boundFrame) ∧ Looks C.M h (keeperOf cg) k
theorem Keeps.builtin {id : String} : Keeps C (.stat (.builtin id)) := fun h cg _ r => by cases r.statI; exact ⟨.machine, .inr (.inl rfl), .now⟩
theorem Keeps.type {id : String} : Keeps C (.stat (.type id)) := fun h cg _ r => by cases r.statI; exact ⟨.machine, .inr (.inl rfl), .now⟩
theorem Keeps.ofK {v : Value} (hk : keepIn C.K v = true) : Keeps C (.stat v) := fun h cg k r => by
  cases r.statI
  obtain ⟨k, a, b⟩ := looks_keep (M := C.M) hk (C.X.keeps k)
  exact ⟨k, a.elim .inl (fun e => .inr (.inl e)), b⟩

noncomputable abbrev kOC (C : Cx) (f : Fx) (X : XT) (ρ : Loc) (g : V) (vs : List V) (Q : V → AH → Prop) : List (PySem.Str × V) → AH → Prop := fun kvs σ₂ => OC C f X ρ g vs kvs σ₂ Q
noncomputable abbrev kArgs (C : Cx) (f : Fx) (X : XT) (ρ : Loc) (g : V) (fst : List V) (ks : List Keyword) (pos : Pos) (Q : V → AH → Prop) : List V → AH → Prop := fun vs σ₁ => Ek C f X ρ (backToKw pos (keywordEach ks f.env)) σ₁ (kOC C f X ρ g (fst ++ vs) Q)
noncomputable abbrev kArg0 (C : Cx) (f : Fx) (X : XT) (ρ : Loc) (g : V) (ks : List Keyword) (pos : Pos) (Q : V → AH → Prop) : List V → AH → Prop := fun vs σ₁ => Ek C f X ρ (backToKw pos (keywordEach ks f.env)) σ₁ (kOC C f X ρ g vs Q)
noncomputable abbrev kFn (C : Cx) (f : Fx) (X : XT) (ρ : Loc) (args : List Expr) (ks : List Keyword) (pos : Pos) (Q : V → AH → Prop) : V → AH → Prop := fun g σ₁ => Keeps C g ∧ El C f X ρ (spliced (backTo pos (starEach args f.env))) σ₁ (kArg0 C f X ρ g ks pos Q)
noncomputable abbrev kFnM (C : Cx) (f : Fx) (X : XT) (ρ : Loc) (args : List Expr) (ks : List Keyword) (pos : Pos) (Q : V → AH → Prop) : V → List V → AH → Prop := fun g fst σ₁ => Keeps C g ∧ El C f X ρ (spliced (backTo pos (starEach args f.env))) σ₁ (kArgs C f X ρ g fst ks pos Q)
theorem zip_fst {α β : Type} : ∀ {l : List α} {m : List β}, l.length = m.length → (l.zip m).map (·.1) = l
  | [], _, _ => rfl
  | _ :: _, [], e => nomatch e
  | a :: _, _ :: _, e => congrArg (a :: ·) (zip_fst (Nat.succ.inj e))
theorem zip_snd {α β : Type} : ∀ {l : List α} {m : List β}, l.length = m.length → (l.zip m).map (·.2) = m
  | [], [], _ => rfl
  | [], _ :: _, e => nomatch e
  | _ :: _, [], e => nomatch e
  | _ :: _, b :: _, e => congrArg (b :: ·) (zip_snd (Nat.succ.inj e))
theorem none_of_all {α : Type} {l : List (Option PySem.Str × α)} (h : l.all (·.1.isSome) = true) : l.any (·.1.isNone) = false := by
  induction l with
  | nil => rfl
  | cons a l ih =>
    rw [List.all_cons, Bool.and_eq_true] at h
    rw [List.any_cons, ih h.2, Bool.or_false]
    cases e : a.1 with
    | none => rw [e] at h; cases h.1
    | some => rfl
theorem callWith_rule {pos : Pos} {g : V} {fst : List V} {args : List Expr} {ks : List Keyword} {Q : V → AH → Prop} (hk : Keeps C g) (hplain : (backTo pos (starEach args f.env)).any (·.1) = false)
    (h : El C f X ρ (spliced (backTo pos (starEach args f.env))) σ (kArgs C f X ρ g fst ks pos Q))
    (hall : (backToKw pos (keywordEach ks f.env)).all (·.1.isSome) = true) :
    ∀ F s cg cfst h₀, St C f ρ F σ s → VR s.heap g cg → VRs s.heap fst cfst → Tup h₀ s.heap →
      wpAny C.M f.A (callWith pos cg cfst (backTo pos (starEach args f.env)) (backToKw pos (keywordEach ks f.env))) (EvP C f ρ F h₀ Q) (X F) s := fun F s cg cfst h₀ x hg hf t₀ => by
  generalize backTo pos (starEach args f.env) = ta at *
  have hnone := none_of_all hall
  refine callWith_of (P := fun h' => (∀ b o, C.base.get? b = some o → h'.get? b = some o) ∧ VR h' g cg) (by rw [hplain, hnone]; rfl) (fun h' ph => hk h' cg ph.1 ph.2) ?_
  refine evalArgs_gen hplain hall (h.on x fun cvs vs s₁ σ₁ x₁ r₁ t₁ h₁ => h₁.on x₁ fun kcs kvs s₂ σ₂ x₂ e₂ r₂ t₂ h₂ => ⟨⟨x₂.sat.keep, hg.mono (t₁.trans t₂)⟩, ?_⟩)
  have hl : ((backToKw pos (keywordEach ks f.env)).filterMap (·.1)).length = kcs.length := by rw [← e₂, ← r₂.length, List.length_map, List.length_map]
  exact wpAny_mono (h₂ F s₂ cg (cfst ++ cvs) _ x₂ (hg.mono (t₁.trans t₂)) ((hf.mono (t₁.trans t₂)).append (r₁.mono t₂)) (e₂.trans (zip_fst hl).symm) (by rw [zip_snd hl]; exact r₂)) (fun _ _ e => e.trans (t₀.trans (t₁.trans t₂))) fun _ _ e => e

theorem Ev.call {func : Expr} {args : List Expr} {ks : List Keyword} {pos : Pos} {Q : V → AH → Prop}
    (h : Ev C f X ρ (eval func f.env) σ (kFn C f X ρ args ks pos Q))
    (harm : eval (.Call func args ks pos) f.env = (do callWith pos (← eval func f.env) [] (backTo pos (starEach args f.env)) (backToKw pos (keywordEach ks f.env))) := by with_unfolding_all rfl)
    (hplain : (backTo pos (starEach args f.env)).any (·.1) = false := by with_unfolding_all rfl) (hall : (backToKw pos (keywordEach ks f.env)).all (·.1.isSome) = true := by with_unfolding_all rfl) :
    Ev C f X ρ (eval (.Call func args ks pos) f.env) σ Q := fun F s x => by
  rw [harm]
  exact wpAny_bind (h.on x fun cg g s₁ σ₁ x₁ r₁ t₁ h₁ => callWith_rule (fst := []) h₁.1 hplain h₁.2 hall F s₁ cg [] _ x₁ r₁ .nil t₁)

/-- the method of a value: what is called, and what goes first -/
inductive OMP (C : Cx) (f : Fx) (ρ : Loc) (F : AH) (h : Heap) (Q : V → List V → AH → Prop) (r : Value × List Value) (s' : Shared) : Prop
  | mk (g : V) (fst : List V) (σ' : AH) (a : St C f ρ F σ' s') (b : VR s'.heap g r.1) (b' : VRs s'.heap fst r.2) (c : Tup h s'.heap) (d : Q g fst σ') : OMP C f ρ F h Q r s'
noncomputable def OM (C : Cx) (f : Fx) (X : XT) (ρ : Loc) (name : PySem.Str) (o : V) (σ : AH) (Q : V → List V → AH → Prop) : Prop :=
  ∀ (pl : Sem Bool) F s co, St C f ρ F σ s → VR s.heap o co →
    wpAny C.M f.A (getMethod co name pl) (OMP C f ρ F s.heap Q) (X F) s

noncomputable abbrev kM (C : Cx) (f : Fx) (X : XT) (ρ : Loc) (name : PySem.Str) (args : List Expr) (ks : List Keyword) (pos : Pos) (Q : V → AH → Prop) : V → AH → Prop := fun o σ₀ => OM C f X ρ name o σ₀ (kFnM C f X ρ args ks pos Q)
theorem Ev.method {o : Expr} {name : PySem.Str} {apos pos : Pos} {args : List Expr} {ks : List Keyword} {Q : V → AH → Prop}
    (h : Ev C f X ρ (eval o f.env) σ (kM C f X ρ name args ks pos Q))
    (hbase : attributeBase o name f.env (eval o f.env) = eval o f.env := by with_unfolding_all rfl)
    (hform : methodCallForm (args.length + ks.length) (backTo pos (starEach args f.env)) (backToKw pos (keywordEach ks f.env)) = true := by with_unfolding_all rfl)
    (hline : (apos.endLine == pos.line) = true := by with_unfolding_all rfl)
    (hplain : (backTo pos (starEach args f.env)).any (·.1) = false := by with_unfolding_all rfl) (hall : (backToKw pos (keywordEach ks f.env)).all (·.1.isSome) = true := by with_unfolding_all rfl) :
    Ev C f X ρ (eval (.Call (.Attribute o name apos) args ks pos) f.env) σ Q := fun F s x => by
  rw [arm_eval_Call, hbase]
  refine wpAny_bind (h.on x fun co ov s₁ σ₁ x₁ r₁ t₁ h₁ => wpAny_bind (wpAny_standAt ?_))
  have hpos : methodCallPos true o f.env apos pos = pure pos := by unfold methodCallPos; rw [hline]; rfl
  unfold methodCall
  rw [hform]
  exact wpAny_bind (wpAny_holding (wpAny_mono (h₁ _ F s₁ co x₁ r₁) (fun r s₂ ⟨g, fst, σ₂, x₂, rg, rf, t₂, h₂⟩ =>
    wpAny_bind (wpAny_of_eq hpos (callWith_rule h₂.1 hplain h₂.2 hall F s₂ r.1 r.2 _ x₂ rg rf (t₁.trans t₂)))) fun _ _ e => e))

theorem Ev.attr {o : Expr} {name : PySem.Str} {pos : Pos} {Q : V → AH → Prop}
    (h : Ev C f X ρ (eval o f.env) σ (kO1 C f X ρ (fun co => getAttr co name true) Q))
    (hbase : attributeBase o name f.env (eval o f.env) = eval o f.env := by with_unfolding_all rfl) : Ev C f X ρ (eval (.Attribute o name pos) f.env) σ Q := fun F s x => by
  have harm : eval (.Attribute o name pos) f.env = (do
    let ov ← attributeBase o name f.env (eval o f.env)
    standAt pos.atName
    let r ← holding [ov] (getAttr ov name true)
    letTemporaryGo o ov r
    pure r) := rfl
  rw [harm, hbase]
  exact wpAny_bind (h.on x fun co ov s₁ σ₁ x₁ r₁ t₁ h₁ => wpAny_bind (wpAny_standAt (wpAny_bind (wpAny_holding (wpAny_mono (h₁.up x₁ r₁ t₁) (fun cv s₂ h₂ => wpAny_bind (wpAny_letTemporaryGo (wpAny_pure h₂))) fun _ _ e => e)))))

structure XOk (C : Cx) (f : Fx) (X : XT) : Prop where
  turn : ∀ F e s, X F e s → notedBy C.M f.A f.env (fun e s'' => cameBackBy C.M f.A f.env (X F) e s'') e s
theorem XOk.no : XOk C f NoX := ⟨fun _ _ _ e => e.elim⟩

noncomputable abbrev kTurn (P : Loc → AH → Prop) (Q : Fl → Loc → AH → Prop) : Fl → Loc → AH → Prop := fun fl ρ₂ σ₂ => match fl with
        | .next => P ρ₂ σ₂
        | .cont => P ρ₂ σ₂
        | .brk => Q .next ρ₂ σ₂
        | .ret v => Q (.ret v) ρ₂ σ₂
noncomputable abbrev kWh (I : Nat → Loc → AH → Prop) (n : Nat) : Loc → AH → Prop := fun ρ₂ σ₂ => ∃ m, m < n ∧ I m ρ₂ σ₂
noncomputable abbrev kLoop (C : Cx) (f : Fx) (X : XT) (ρ : Loc) (body orelse : List Stmt) (P : Loc → AH → Prop) (Q : Fl → Loc → AH → Prop) : Bool → AH → Prop := fun b σ₁ => if b then Ex C f X ρ (execs body f.env) σ₁ (kTurn P Q) else Ex C f X ρ (execs orelse f.env) σ₁ Q
theorem XOk.nt (hX : XOk C f X) {F : AH} {e : Value} {s' : Shared} (h : X F e s') : notedBy C.M f.A f.env (fun e s'' => cameBackBy C.M f.A f.env (X F) e s'') e s' := hX.turn F _ _ h
inductive WhI (C : Cx) (f : Fx) (F : AH) (h : Heap) (I : Nat → Loc → AH → Prop) (k : Nat) (s' : Shared) : Prop
  | mk (ρ' : Loc) (σ' : AH) (a : St C f ρ' F σ' s') (c : Tup h s'.heap) (d : I k ρ' σ') : WhI C f F h I k s'
theorem Ex.while {test : Expr} {body orelse : List Stmt} {pos : Pos} {Q : Fl → Loc → AH → Prop} (hX : XOk C f X) (I : Nat → Loc → AH → Prop)
    (turn : ∀ n ρ' σ', I n ρ' σ' → Et C f X ρ' (isTrue test f.env (eval test f.env)) σ' (kLoop C f X ρ' body orelse (kWh I n) Q))
    (n : Nat) (h : I n ρ σ) : Ex C f X ρ (exec (.While test body orelse pos) f.env) σ Q := fun F s x => by
  refine wpAny_While (codeAny_whileLoop (WhI C f F s.heap I) (fun k s' ⟨ρ', σ', x', t', hI⟩ => ?_) n ⟨ρ, σ, x, Tup.refl _, h⟩)
  refine wpAny_mono (turn k ρ' σ' hI F s' x') (fun b s₁ ⟨σ₁, x₁, t₁, h₁⟩ => ?_) (fun _ _ q => hX.nt q)
  cases b with
  | true =>
    refine wpAny_mono (h₁ F s₁ x₁) (fun fl s₂ ⟨a, ρ₂, σ₂, x₂, r₂, t₂, h₂⟩ => ?_) (fun _ _ q => hX.nt q)
    have tt := (t'.trans t₁).trans t₂
    cases a <;> cases fl <;> first
      | exact r₂.elim
      | exact h₂.elim fun m hm => ⟨m, hm.1, ρ₂, σ₂, x₂, tt, hm.2⟩
      | exact ⟨.next, ρ₂, σ₂, x₂, trivial, tt, h₂⟩
      | exact ⟨.ret _, ρ₂, σ₂, x₂, r₂, tt, h₂⟩
  | false => exact wpAny_mono (h₁ F s₁ x₁) (fun _ _ e => e.trans (t'.trans t₁)) (fun _ _ q => hX.nt q)

/-- an iterator that no loop empties -/
noncomputable def plainIt (o : Obj) : Bool := match o.cls with
  | .type n => !(["enumerate", "zip", "dict_itemiterator", "dict_reverseitemiterator", "odict_iterator", "itertools.zip_longest", "itertools.pairwise"].contains n) && n != "tuple"
  | _ => false
noncomputable def GoOk (M : Model) (target : Expr) : Prop := ∀ (A : Around) (E : Value → Shared → Prop) (s : Shared) (it : Addr) (o : Obj) (v : Value) (Q : Unit → Shared → Prop), s.heap.get? it = some o → plainIt o = true → Q () s → wpAny M A (letOwnedTupleGo target (.ref it) v) Q E s
theorem GoOk.plain {M : Model} {target : Expr} (h : ∀ (v : Value) (it : Addr), letOwnedTupleGo target (.ref it) v = pure ()) : GoOk M target := fun A E s it o v Q _ _ q => by rw [h]; exact wpAny_pure q
theorem GoOk.tup {M : Model} {elts : List Expr} {tk : Nat} {pos : Pos} : GoOk M (.Tuple elts tk pos) := fun A E s it o v Q ho hp q => by
  cases v with
  | ref T =>
    refine wpAny_bind (wpAny_load ho ?_)
    unfold plainIt at hp
    split
    · rename_i n vs e _
      rw [e] at hp
      simp only [Bool.and_eq_true, Bool.not_eq_true'] at hp
      rw [hp.1]
      exact wpAny_pure q
    · exact wpAny_pure q
  | _ => exact wpAny_pure q
/-- an iterator at work -/
structure Iter (C : Cx) (f : Fx) (src : AH → Prop) (items : List V) (h₀ : Heap) (it : Addr) (P : Nat → Obj → Prop) : Prop where
  own : ∀ k o, P k o → plainIt o = true
  self : ∀ (g : Fx) (k : Nat) (F σ : AH) (ρ : Loc) (s : Shared) (Q : Value → Shared → Prop) (E : Value → Shared → Prop), St C g ρ F σ s → F it = some (.any (P k)) → Q (.ref it) s → wpAny C.M f.A (pyIter (.ref it)) Q E s
  next : ∀ (g : Fx) (k : Nat) (v : V) (F σ : AH) (ρ : Loc) (s : Shared) (Q : Option Value → Shared → Prop) (E : Value → Shared → Prop), St C g ρ F σ s → F it = some (.any (P k)) → src σ → Tup h₀ s.heap → items[k]? = some v →
    (∀ cv h' tk, VR h' v cv → ObjAt h' it (.any (P (k + 1))) → Heap.SameBut it s.heap h' → Q (some cv) { s with heap := h', toks := tk }) → wpAny C.M f.A (pyNext (.ref it)) Q E s
  done : ∀ (g : Fx) (F σ : AH) (ρ : Loc) (s : Shared) (Q : Option Value → Shared → Prop) (E : Value → Shared → Prop), St C g ρ F σ s → F it = some (.any (P items.length)) → src σ → Tup h₀ s.heap →
    (∀ h' tk, Heap.ExtBut it s.heap h' → Q none { s with heap := h', toks := tk }) → wpAny C.M f.A (pyNext (.ref it)) Q E s
/-- what a value gives when it is walked -/
noncomputable def Iters (C : Cx) (f : Fx) (ρ : Loc) (v : V) (σ : AH) (src : AH → Prop) (items : List V) : Prop :=
  ∀ F s cv (Q : Value → Shared → Prop) (E : Value → Shared → Prop), St C f ρ F σ s → VR s.heap v cv →
    (∀ o P tk, P 0 o → o.isFreed = false → Iter C f src items s.heap s.heap.objs.size P → Q (.ref s.heap.objs.size) { s with heap := s.heap.push o, toks := tk }) → wpAny C.M f.A (pyIter cv) Q E s

noncomputable abbrev kBody (C : Cx) (f : Fx) (X : XT) (body : List Stmt) (Q : Fl → Loc → AH → Prop) : Loc → AH → Prop := fun ρ₂ σ₂ => Ex C f X ρ₂ (execs body f.env) σ₂ Q
theorem plainIt_tup {o : Obj} (h : plainIt o = true) : o.cls ≠ .type "tuple" := fun e => by
  unfold plainIt at h
  rw [e, Bool.and_eq_true] at h
  exact absurd h.2 (by decide)
inductive ForI (C : Cx) (f : Fx) (F : AH) (it : Addr) (P : Nat → Obj → Prop) (m : Nat) (h : Heap) (I : Nat → Loc → AH → Prop) (n : Nat) (s' : Shared) : Prop
  | mk (k : Nat) (ρ' : Loc) (σ' : AH) (e : n + k = m) (a : St C f ρ' (F.set it (.any (P k))) σ' s') (c : Tup h s'.heap) (d : I k ρ' σ') : ForI C f F it P m h I n s'
/-- what a loop needs of what it walks -/
inductive ForG (C : Cx) (f : Fx) (X : XT) (target : Expr) (body orelse : List Stmt) (Q : Fl → Loc → AH → Prop) (ρ : Loc) (v : V) (σ : AH) : Prop
  | mk (src : AH → Prop) (items : List V) (it : Iters C f ρ v σ src items) (I : Nat → Loc → AH → Prop) (h0 : I 0 ρ σ) (hst : ∀ k ρ' σ', I k ρ' σ' → src σ')
      (turn : ∀ k v ρ' σ', items[k]? = some v → I k ρ' σ' → AsV C f X ρ' (PySem.assign target f.env) v σ' (kBody C f X body (kTurn (I (k + 1)) Q)))
      (fin : ∀ ρ' σ', I items.length ρ' σ' → Ex C f X ρ' (execs orelse f.env) σ' Q) : ForG C f X target body orelse Q ρ v σ
theorem set_set {τ : AH} {a : Addr} {o p : AO} : (τ.set a o).set a p = τ.set a p := by funext b; unfold AH.set; split <;> rfl
theorem left_pos {n k m : Nat} (hn : n + k = m) (h : k < m) : ∃ j, n = j + 1 := ⟨n - 1, by omega⟩
theorem left_none {n k m : Nat} (hn : n + k = m) (h : m ≤ k) : k = m := by omega
theorem left_next {m k l : Nat} (hn : m + 1 + k = l) : m + (k + 1) = l := by omega
theorem Ex.for_any {target : Expr} {iter : Expr} {body orelse : List Stmt} {pos : Pos} {Q : Fl → Loc → AH → Prop} (hX : XOk C f X) (hXF : ∀ F F' e s, X F e s → X F' e s)
    (h : Ev C f X ρ (eval iter f.env) σ (ForG C f X target body orelse Q ρ)) (hgo : GoOk C.M target)
    (hfold : ∀ x, foldedSetIterable iter f.env x = pure x := by intro _; with_unfolding_all rfl) :
    Ex C f X ρ (exec (.For target iter body orelse pos) f.env) σ Q := fun F s x => by
  refine wpAny_For (h.on x fun cv v s₁ σ₁ x₁ r₁ t₁ h₁ => ?_) hfold
  obtain ⟨src, items, hit, I, h0, hst, turn, fin⟩ := h₁
  refine hit F s₁ cv _ _ x₁ r₁ fun o P tk hP hof hI => ?_
  have hk0 : ∀ b ob, s₁.heap.get? b = some ob → (s₁.heap.push o).get? b = some ob := fun b ob e => Heap.get?_push_of_some _ e
  have fresh0 := (x₁.fresh).2.1
  refine codeAny_forLoop_any (ForI C f F s₁.heap.objs.size P items.length s₁.heap I) (fun n s' ⟨k, ρ', σ', hn, x', t', hI'⟩ => ?_) items.length
    ⟨0, ρ, σ₁, rfl, x₁.newF (o := .any (P 0)) hk0 ⟨o, Heap.get?_push_size _ hof, hP, plainIt_tup (hI.own _ _ hP)⟩ tk, Tup.ext hk0, h0⟩
  generalize s₁.heap.objs.size = it at fresh0 hI x' ⊢
  cases hv : items[k]? with
  | some v =>
    refine hI.next f k v _ _ _ s' _ _ x' (AH.set_self ..) (hst _ _ _ hI') t' hv fun cv' h' tk' rv hob hsb => ?_
    have x₃ := (x'.updF (AH.set_self ..) hsb hob tk').1
    have t₃ := (x'.updF (AH.set_self ..) hsb hob tk').2
    rw [set_set] at x₃
    obtain ⟨m, rfl⟩ := left_pos hn (List.getElem?_eq_some_iff.mp hv).1
    obtain ⟨oi, hoi, hoP, _⟩ := hob
    refine hgo _ _ _ it oi cv' _ hoi (hI.own _ _ hoP) ?_
    refine wpAny_mono (turn k v ρ' σ' hv hI' _ _ cv' x₃ rv) (fun _ s₄ ⟨ρ₄, σ₄, x₄, t₄, h₄⟩ => ?_) (fun _ _ q => hX.nt (hXF _ _ _ _ q))
    refine wpAny_mono (h₄ _ s₄ x₄) (fun fl s₅ ⟨a, ρ₅, σ₅, x₅, r₅, t₅, h₅⟩ => ?_) (fun _ _ q => hX.nt (hXF _ _ _ _ q))
    have tt := ((t'.trans t₃).trans t₄).trans t₅
    have dr := (x₅.dropF (F₀ := F) rfl fresh0 (Heap.ExtBut.refl it s₅.heap) s₅.toks).1
    cases a <;> cases fl <;> first
      | exact r₅.elim
      | exact ⟨m, Nat.lt_succ_self _, k + 1, ρ₅, σ₅, left_next hn, x₅, tt, h₅⟩
      | exact ⟨.next, ρ₅, σ₅, dr, trivial, t₁.trans tt, h₅⟩
      | exact ⟨.ret _, ρ₅, σ₅, dr, r₅, t₁.trans tt, h₅⟩
  | none =>
    obtain rfl := left_none hn (List.getElem?_eq_none_iff.mp hv)
    refine hI.done f _ _ _ s' _ _ x' (AH.set_self ..) (hst _ _ _ hI') t' fun h' tk' hext => ?_
    have dr := x'.dropF (F₀ := F) rfl fresh0 hext tk'
    exact wpAny_mono (fin ρ' σ' hI' F _ dr.1) (fun _ _ e => e.trans ((t₁.trans t').trans dr.2)) (fun _ _ q => hX.nt q)
theorem Ex.for_gen {target : Expr} {iter : Expr} {body orelse : List Stmt} {pos : Pos} {Q : Fl → Loc → AH → Prop} (hX : XOk C f X) (hXF : ∀ F F' e s, X F e s → X F' e s)
    (h : Ev C f X ρ (eval iter f.env) σ (ForG C f X target body orelse Q ρ))
    (hfold : ∀ x, foldedSetIterable iter f.env x = pure x := by intro _; with_unfolding_all rfl)
    (hown' : ∀ (v : Value) (it : Addr), letOwnedTupleGo target (.ref it) v = pure () := by intros; with_unfolding_all rfl) :
    Ex C f X ρ (exec (.For target iter body orelse pos) f.env) σ Q := Ex.for_any hX hXF h (.plain hown') hfold
theorem Ex.for_listT {elts : List Expr} {tk' : Nat} {tp : Pos} {iter : Expr} {body orelse : List Stmt} {pos : Pos} {Q : Fl → Loc → AH → Prop} (hX : XOk C f X) (hXF : ∀ F F' e s, X F e s → X F' e s)
    (h : Ev C f X ρ (eval iter f.env) σ (ForG C f X (.Tuple elts tk' tp) body orelse Q ρ))
    (hfold : ∀ x, foldedSetIterable iter f.env x = pure x := by intro _; with_unfolding_all rfl) :
    Ex C f X ρ (exec (.For (.Tuple elts tk' tp) iter body orelse pos) f.env) σ Q := Ex.for_any hX hXF h .tup hfold

theorem Iters.list {l : Addr} {vs : List V} (hh : f.A.handled = none) (hl : σ l = some (.list vs)) : Iters C f ρ (.ref l) σ (fun σ' => σ' l = some (.list vs)) vs := fun F s cv Q E x r hq => by
  cases r.refI
  obtain ⟨cvs, n, ho, hr⟩ := x.obj hl
  refine wpAny_pyIter_list (items := List.toArray cvs) ⟨_, ho, rfl, n, rfl⟩ (hq _ (fun k o => o.cls = .type "list_iterator" ∧ o.data = .fields #[.ref l, .int k 0]) s.toks ⟨rfl, rfl⟩ rfl ⟨fun k o h => by unfold plainIt; rw [h.1]; decide, fun g k F' σ' ρ' s' Q' E' x' hF hq => (by
    obtain ⟨oi, hoi, hP, _⟩ := (x'.sat.obj _ _ (x'.atF hF)).1
    exact wpAny_pyIter_listiter ⟨oi, hoi, hP⟩ hq), ?_, ?_⟩)
  · intro g k v F' σ' ρ' s' Q' E' x' hF hsrc ht hv hq'
    obtain ⟨oi, hoi, ⟨hc, hd⟩, _⟩ := (x'.sat.obj _ _ (x'.atF hF)).1
    obtain ⟨cvs', n', ho', hr'⟩ := x'.obj hsrc
    obtain ⟨cv, hcv, rv⟩ := hr'.get hv
    refine wpAny_pyNext_list_item (l := l) (i := k) (items := List.toArray cvs') (x := cv) ⟨oi, hoi, hc, hd⟩ ⟨_, ho', rfl, n', rfl⟩ (by simpa using hcv) fun h' ⟨o2, g2, c2, d2⟩ hs => ?_
    have tp := (x'.sat.obj _ _ (x'.atF hF)).1.tup hs
    exact hq' cv h' s'.toks (rv.mono tp) ⟨o2, g2, ⟨c2, d2⟩, by rw [c2]; simp⟩ hs
  · intro g F' σ' ρ' s' Q' E' x' hF hsrc ht hq'
    obtain ⟨oi, hoi, ⟨hc, hd⟩, _⟩ := (x'.sat.obj _ _ (x'.atF hF)).1
    obtain ⟨cvs', n', ho', hr'⟩ := x'.obj hsrc
    exact wpAny_pyNext_list_end (l := l) (i := vs.length) (items := List.toArray cvs') hh ⟨oi, hoi, hc, hd⟩ ⟨_, ho', rfl, n', rfl⟩ (by simp [hr'.length]) fun h' hs => hq' h' s'.toks hs
end
end Mine

namespace Mine

section
variable {C : Cx} {f : Fx} {X : XT} {ρ : Loc} {σ : AH} {d : Nat} {ns : List (PySem.Str × NameKind)}

theorem binds_at {h : Heap} : ∀ {N : List PySem.Str} {bs : List V} {cs : List Value} {m : PySem.Str → Option Value}, N.Nodup → VRs h bs cs → bs.length ≤ N.length →
    (∀ x cv, ((N.take bs.length).zip cs).reverse.lookup x = some cv → m x = some cv) → LocR h N (bs.map some ++ List.replicate (N.length - bs.length) none) m := by
  intro N bs cs m hn hr hl hm i x v hi hv
  by_cases hlt : i < bs.length
  · rw [List.getElem?_append_left (by simpa using hlt), List.getElem?_map] at hv
    obtain ⟨w, hw, e⟩ := Option.map_eq_some_iff.mp hv
    cases e
    obtain ⟨cv, hcv, rv⟩ := hr.get hw
    refine ⟨cv, hm x cv ?_, rv⟩
    have hz : ((N.take bs.length).zip cs)[i]? = some (x, cv) := by
      rw [List.getElem?_zip_eq_some]
      exact ⟨by rw [List.getElem?_take]; simp [hlt, hi], hcv⟩
    have hmem : (x, cv) ∈ ((N.take bs.length).zip cs).reverse := List.mem_reverse.mpr (List.mem_of_getElem? hz)
    have hnd : ((((N.take bs.length).zip cs).reverse).map (·.1)).Nodup := by
      have h0 : (((N.take bs.length).zip cs).map (·.1)).Nodup := by
        rw [List.map_fst_zip (by have := hr.length; simp; omega)]
        exact hn.sublist (List.take_sublist ..)
      rw [List.map_reverse]
      exact (List.pairwise_reverse.mpr (h0.imp Ne.symm))
    generalize ((N.take bs.length).zip cs).reverse = l at hmem hnd
    induction l with
    | nil => cases hmem
    | cons a l ih =>
      obtain ⟨y, w'⟩ := a
      rw [List.map_cons, List.nodup_cons] at hnd
      rcases List.mem_cons.mp hmem with q | q
      · cases q; simp [List.lookup]
      · have : (x == y) = false := by
          rw [beq_eq_false_iff_ne]; rintro rfl
          exact hnd.1 (List.mem_map.mpr ⟨_, q, rfl⟩)
        rw [List.lookup_cons, this]
        exact ih q hnd.2
  · rw [List.getElem?_append_right (by simp; omega)] at hv
    rw [List.getElem?_replicate] at hv
    split at hv <;> cases hv

/-- how a def binds: these arguments give these values for its first names -/
noncomputable def Binds (C : Cx) (fd : FuncData) (args : List V) (kw : List (PySem.Str × V)) (bs : List V) : Prop :=
  ∀ (A : Around) (E : Value → Shared → Prop) (Q : List (PySem.Str × Value) → Shared → Prop) (s : Shared) cargs ckw, C.K.In s.heap → VRs s.heap args cargs → kw.map (·.1) = ckw.map (·.1) → VRs s.heap (kw.map (·.2)) (ckw.map (·.2)) →
    (∀ cs h', (∀ b o, s.heap.get? b = some o → h'.get? b = some o) → VRs h' bs cs → Q (((fd.scope.names.map (·.1)).take bs.length).zip cs) { s with heap := h' }) → wpAny C.M A (bindArgs fd ⟨cargs, ckw⟩) Q E s

noncomputable def retOf : Fl → V
  | .ret v => v
  | _ => .none

/-- a call, as the machine's own code -/
noncomputable def OCc (C : Cx) (f : Fx) (X : XT) (ρ : Loc) (g : V) (args : List V) (kw : List (PySem.Str × V)) (σ : AH) (Q : V → AH → Prop) : Prop :=
  ∀ F s cg cargs ckw, St C f ρ F σ s → VR s.heap g cg → VRs s.heap args cargs → kw.map (·.1) = ckw.map (·.1) → VRs s.heap (kw.map (·.2)) (ckw.map (·.2)) →
    codeAny C.M f.A (.call cg ⟨cargs, ckw⟩) (fun r s' => match r with | .ok (.ret v) => EvP C f ρ F s.heap Q v s' | .ok _ => False | .error e => X F e s') s
theorem OCc.oc {g : V} {args : List V} {kw : List (PySem.Str × V)} {Q : V → AH → Prop} (h : OCc C f X ρ g args kw σ Q) : OC C f X ρ g args kw σ Q := fun F s cg cargs ckw x a b c e => wpAny_call (h F s cg cargs ckw x a b c e)
noncomputable abbrev kDef (Q : V → AH → Prop) : Fl → Loc → AH → Prop := fun fl _ σ' => Q (retOf fl) σ'
theorem St.enter {F : AH} {s : Shared} {h₁ : Heap} {L : Addr} {env : Env} {A' : Around} {N : List PySem.Str} {bs : Loc} (x : St C f ρ F σ s) (hk : f.env.scope.kind ≠ .module) (hf : (f.stack = f.env :: f.outer ∧ f.env.frame = some f.L) ∨ f.stack = f.outer) (hL : L = s.heap.objs.size) (hl : env.locals = L) (hN : env.scope.names.map (·.1) = N)
    (hkeep : ∀ b o, s.heap.get? b = some o → h₁.get? b = some o) (ho : ObjAt h₁ L (.frame N bs)) (t : Nat) : St C ⟨A', env, f.stack, env :: f.stack⟩ bs (F.set f.L (.frame f.N ρ)) σ { s with heap := h₁, toks := t } := by
  subst hl hN
  obtain ⟨f1, f2, f3⟩ := x.fresh
  rw [← hL] at f1 f2 f3
  have FL : ∀ b, (F.set f.L (.frame f.N ρ)) b = if b = f.L then some (.frame f.N ρ) else F b := fun b => rfl
  refine ⟨⟨f1, ?_, fun a o e => ?_, fun e he => ?_⟩, ?_⟩
  · exact (FL _).trans ((if_neg f3).trans f2)
  · rw [FL] at e
    split at e
    · rename_i q; rw [q]; exact x.dis.l1
    · exact x.dis.l3 a o e
  · have hq : (e = f.env ∧ f.env.frame = some f.L) ∨ e ∈ f.outer := by
      rcases hf with ⟨h1, h2⟩ | h1
      · exact (List.mem_cons.mp (h1 ▸ he)).elim (fun q => .inl ⟨q, h2⟩) .inr
      · exact .inr (h1 ▸ he)
    rcases hq with ⟨rfl, hf'⟩ | q
    · exact ⟨hk, f.L, f.N, ρ, hf', AH.set_self ..⟩
    · obtain ⟨k, L', N, ρ', e1, e2⟩ := x.dis.fr e q
      exact ⟨k, L', N, ρ', e1, (AH.set_ne _ _ fun q => by rw [q, x.dis.l2] at e2; cases e2).trans e2⟩
  · have hz := x.sat.new (o := .frame (env.scope.names.map (·.1)) bs) (ob := default) hkeep (hL ▸ ho) t
    rw [← hL] at hz
    refine hz.weaken fun a o e => ?_
    unfold tot at e
    unfold AH.set
    split at e
    · rename_i q; rw [if_pos (show a = env.locals from q)]; exact e
    · rename_i q
      rw [if_neg (show ¬ a = env.locals from q)]
      unfold tot
      cases w : σ a with
      | some o' =>
        rw [w] at e
        rw [if_neg (fun q => by rw [q, x.dis.l1] at w; cases w)]
        exact e
      | none =>
        rw [w] at e
        rw [FL] at e
        exact e
theorem St.leave' {F σ' : AH} {s' : Shared} {env : Env} {A' : Around} {st : List Env} {ρ' : Loc} (l2 : F f.L = none) (frs : ∀ e ∈ f.outer, e.scope.kind ≠ .module ∧ ∃ L' N ρ, e.frame = some L' ∧ F L' = some (.frame N ρ)) (hC : F env.locals = none) (hne : env.locals ≠ f.L)
    (x' : St C ⟨A', env, f.stack, st⟩ ρ' (F.set f.L (.frame f.N ρ)) σ' s') : St C f ρ F σ' s' := by
  have hL' : (F.set f.L (.frame f.N ρ)) f.L = some (.frame f.N ρ) := AH.set_self ..
  have lne : f.L ≠ env.locals := Ne.symm hne
  have h3 := x'.dis.l3
  refine ⟨⟨h3 _ _ hL', l2, fun a o e => h3 a o ((AH.set_ne _ _ fun q => by rw [q, l2] at e; cases e).trans e), frs⟩, x'.sat.weaken fun a o e => ?_⟩
  unfold tot at e ⊢
  split at e
  · rename_i q
    subst q
    rw [if_neg lne, h3 _ _ hL']
    exact hL'.trans e
  · rename_i q
    have hne : a ≠ env.locals := by
      rintro rfl
      rw [show σ' env.locals = none from x'.dis.l1] at e
      rw [hC] at e; cases e
    rw [if_neg (show ¬ a = _ from hne)]
    cases w : σ' a with
    | some o' => rw [w] at e; exact e
    | none => rw [w] at e; exact (AH.set_ne _ _ q).trans e
theorem St.leave {F σ' : AH} {s s' : Shared} {env : Env} {A' : Around} {st : List Env} {ρ' : Loc} (x : St C f ρ F σ s) (hL : env.locals = s.heap.objs.size)
    (x' : St C ⟨A', env, f.stack, st⟩ ρ' (F.set f.L (.frame f.N ρ)) σ' s') : St C f ρ F σ' s' := St.leave' x.dis.l2 x.dis.fr (by rw [hL]; exact x.fresh.2.1) (by rw [hL]; exact x.fresh.2.2) x'
/-- how a def binds, objects laid for it -/
noncomputable def BindsE (C : Cx) (fd : FuncData) (args : List V) (kw : List (PySem.Str × V)) (B : List V → Prop) (n : Nat) : Prop :=
  ∀ (A : Around) (E : Value → Shared → Prop) (Q : List (PySem.Str × Value) → Shared → Prop) (s : Shared) cargs ckw, C.K.In s.heap → VRs s.heap args cargs → kw.map (·.1) = ckw.map (·.1) → VRs s.heap (kw.map (·.2)) (ckw.map (·.2)) →
    (∀ bs cs h', B bs → bs.length = n → (∀ b o, s.heap.get? b = some o → h'.get? b = some o) → VRs h' bs cs → Q (((fd.scope.names.map (·.1)).take n).zip cs) { s with heap := h' }) → wpAny C.M A (bindArgs fd ⟨cargs, ckw⟩) Q E s
theorem lookup_of_mem {l : List (PySem.Str × NameKind)} {z : PySem.Str × NameKind} (hl : (l.map (·.1)).Nodup) (hm : z ∈ l) : l.lookup z.1 = some z.2 := by
  induction l with
  | nil => cases hm
  | cons a l ih =>
    rw [List.map_cons, List.nodup_cons] at hl
    rcases List.mem_cons.mp hm with q | q
    · subst q; obtain ⟨z1, z2⟩ := z; simp [List.lookup]
    · obtain ⟨a1, a2⟩ := a
      have : (z.1 == a1) = false := by
        rw [beq_eq_false_iff_ne]; intro q'
        exact hl.1 (List.mem_map.mpr ⟨z, q, q'⟩)
      rw [List.lookup_cons, this]; exact ih hl.2 q
theorem Binds.toE {fd : FuncData} {args : List V} {kw : List (PySem.Str × V)} {bs : List V} (h : Binds C fd args kw bs) : BindsE C fd args kw (· = bs) bs.length := fun A E Q s cargs ckw KI ra rk rkv q => h A E Q s cargs ckw KI ra rk rkv fun cs h' a b => q bs cs h' rfl rfl a b
theorem deeper_depth {a d l : Nat} (h : a + (d + 1) < l) : a + 1 + d < l := by omega
theorem deeper_units {a d l : Nat} (h : a + 4 * (d + 1) + 16 < l) : a + 3 + 4 * d + 16 < l := by omega
theorem codeAny_call_defE {prog : Program} {w : World} {A : Around} {s : Shared} {R : Result → Shared → Prop} {a : Addr} {o : Obj} {fd : FuncData} {body : List Stmt} {args : Args}
    (hroom : A.depth < recursionLimit) (ho : s.heap.get? a = some o) (hdata : o.data = .func fd) (hcd : s.heap.CodeRec fd.code fd.qualname)
    (hbody : fd.body = .stmts body) (hcell : ∀ x ∈ fd.scope.names, x.2 ≠ .cell)
    (h : wpAny (model prog w) A.in1 (bindArgs fd args) (fun binds s₁ => s₁.heap.NoLimit ∧ (∀ x ∈ binds, fd.scope.names.lookup x.1 = some .local) ∧ ∀ h₀, h₀.Ns s₁.heap.objs.size (fun x => binds.reverse.lookup x) → (∀ b o, s₁.heap.get? b = some o → h₀.get? b = some o) →
      wpAny (model prog w) (A.deeper (callEnv fd s₁.heap.objs.size a)) (execs body (callEnv fd s₁.heap.objs.size a)) (fun f s' => R (.ok (.ret (match f with | .ret v => v | _ => .none))) s')
        (fun e s' => wpAny (model prog w) (A.deeper (callEnv fd s₁.heap.objs.size a)) (leaving (callEnv fd s₁.heap.objs.size a) e) (fun _ s'' => R (.error e) s'') (fun e' s'' => R (.error e') s'') s')
        { s₁ with heap := h₀, toks := s₁.toks + binds.length }) (fun e s' => R (.error e) s') s)
    (hco : fd.scope.isCoroutine = false := by rfl) (hgen : fd.scope.isGenerator = false := by rfl) (hk : fd.scope.kind = .function := by rfl) :
    codeAny (model prog w) A (.call (.ref a) args) R s := by
  refine codeAny_call_function hroom ho hdata hco hgen hbody hcd (wpAny_mono h (fun binds s₁ ⟨hlim, hloc, h⟩ => ?_) fun _ _ e => e)
  refine wpAny_newFunctionEnv hcell hloc (fun h₀ hns₀ hsb₀ => ⟨hlim.fresh _ hsb₀, codeAny_func (h h₀ hns₀ fun b o e => ?_)⟩) hk
  exact hsb₀.extBut b o (Nat.ne_of_lt (Heap.lt_size e)) (Heap.get?_push_of_some _ e)

theorem OCc.fnE {fa : Addr} {oc : Value} {od : Option Addr} {osl : Array (Option Value)} {fd : FuncData} {body : List Stmt} {args : List V} {kw : List (PySem.Str × V)} {B : List V → Prop} {n : Nat} {Q : V → AH → Prop}
    (ok : f.Ok (d + 1) ns) (hk : C.K.lookup fa = some ⟨oc, od, .func fd, osl⟩) (hbody : fd.body = .stmts body) (hcode : codeIn C.K fd.code fd.qualname = true)
    (hg : fd.globals = mainGlobals) (hb : fd.builtins = builtinsNs) (hnd : (fd.scope.names.map (·.1)).Nodup)
    (hcell : (fd.scope.names.all fun x => x.2 != .cell) = true) (hpar : ((fd.scope.names.take n).all fun x => x.2 == .local) = true) (hbl : n ≤ fd.scope.names.length) (hdbg : (fd.scope.names.map (·.1)).all (fun x => !(x == ("__debug__" : PySem.Str))) = true)
    (hco : fd.scope.isCoroutine = false) (hgen : fd.scope.isGenerator = false) (hkind : fd.scope.kind = .function)
    (hbind : BindsE C fd args kw B n)
    (h : ∀ (f' : Fx) (bs : List V), B bs → bs.length = n → f'.Ok d fd.scope.names → (f.A.handled = none → f'.A.handled = none) → Ex C f' NoX (bs.map some ++ List.replicate (fd.scope.names.length - bs.length) none) (execs body f'.env) σ (kDef Q)) :
    OCc C f X ρ (.stat (.ref fa)) args kw σ Q := fun F s₀ cg cargs ckw x₀ rg ra rk rkv => by
  cases rg.statI
  have KI := Cx.inK x₀
  refine codeAny_call_defE (body := body) (Nat.lt_of_le_of_lt (Nat.le_add_right _ _) ok.depth) (KI _ _ hk) rfl (codeRec_of KI hcode) hbody (fun y hy => bne_iff_ne.mp (List.all_eq_true.mp hcell y hy)) ?_ hco hgen hkind
  refine hbind _ _ _ s₀ cargs ckw KI ra rk rkv fun bs cs hh hB hn hkeep₀ rcs => ?_
  obtain ⟨x, t0⟩ := x₀.ext hkeep₀ s₀.toks
  subst hn
  refine ⟨C.nolimit.keeps x.sat.keep, fun y hy => ?_, fun h₁ hns hkeep => ?_⟩
  · have hy' : y.1 ∈ (fd.scope.names.map (·.1)).take bs.length := (List.of_mem_zip hy).1
    rw [← List.map_take] at hy'
    obtain ⟨z, hz, e⟩ := List.mem_map.mp hy'
    rw [← e, lookup_of_mem hnd (List.mem_of_mem_take hz), beq_iff_eq.mp (List.all_eq_true.mp hpar z hz)]
  have hst := x.enter (h₁ := h₁) (L := hh.objs.size) (env := callEnv fd hh.objs.size fa) (A' := f.A.deeper (callEnv fd hh.objs.size fa)) (N := fd.scope.names.map (·.1)) (by rw [ok.kind]; decide) ok.frame rfl rfl rfl hkeep
    ⟨_, hns, binds_at (N := fd.scope.names.map (·.1)) (bs := bs) (cs := cs) (m := fun x => List.lookup x (((fd.scope.names.map (·.1)).take bs.length).zip cs).reverse) hnd (rcs.mono (Tup.ext hkeep)) (by rw [List.length_map]; exact hbl) (fun _ _ e => e)⟩ (s₀.toks + (((fd.scope.names.map (·.1)).take bs.length).zip cs).length)
  rw [List.length_map] at hst
  have hok : Fx.Ok d fd.scope.names ⟨f.A.deeper (callEnv fd hh.objs.size fa), callEnv fd hh.objs.size fa, f.stack, callEnv fd hh.objs.size fa :: f.stack⟩ :=
    ⟨rfl, hkind, hg, hb, .inl ⟨rfl, rfl⟩, hnd, hdbg, deeper_depth ok.depth, deeper_units ok.units, Around.frames_deeper ok.frames⟩
  refine wpAny_mono (h _ bs hB rfl hok (fun q => q) _ _ hst) (fun fl s' ⟨a, ρ', σ', x', r', t', hq⟩ => ?_) (fun _ _ q => q.elim)
  have back := x.leave rfl x'
  have tt : Tup s₀.heap s'.heap := t0.trans ((Tup.ext hkeep).trans t')
  cases a <;> cases fl <;> first
      | exact r'.elim
      | exact ⟨.none, σ', back, .none, tt, hq⟩
      | exact ⟨_, σ', back, r', tt, hq⟩
end
end Mine

namespace Mine
noncomputable abbrev Es := List (PySem.Str × V)
noncomputable def keysOf (es : Es) : List PySem.Str := es.map (·.1)
/-- the entry of a name -/
inductive EntAt : Es → PySem.Str → V → Nat → Prop
  | head {x v r} : EntAt ((x, v) :: r) x v 0
  | tail {e r x v i} : EntAt r x v i → EntAt (e :: r) x v (i + 1)
theorem EntAt.mem {es : Es} {x : PySem.Str} {v : V} {i : Nat} (h : EntAt es x v i) : x ∈ keysOf es := by
  induction h with
  | head => exact List.mem_cons_self
  | tail _ ih => exact List.mem_cons_of_mem _ ih

section
variable {h : Heap}
theorem ers_find : ∀ {es : Es} {ces : List DictEntry} {x : PySem.Str} {v : V} {i : Nat}, ERs h es ces → EntAt es x v i → (keysOf es).Nodup →
    ∃ e, ces.find? (·.key.isStr x) = some e ∧ VR h v e.val
  | _, _, _, _, _, .cons (x := y) (t := t) (hs := hs) (cv := cv) (ces := ces) r _, .head, _ => ⟨⟨hs, .str y t, cv⟩, by simp [List.find?, Value.isStr], r⟩
  | _, _, x, _, _, .cons (x := y) (t := t) (hs := hs) (cv := cv) (ces := ces) r rs, .tail (i := i) e, hn => by
    have hn' := List.nodup_cons.mp hn
    have : y ≠ x := fun q => hn'.1 (q ▸ e.mem)
    obtain ⟨en, h1, h2⟩ := ers_find rs e hn'.2
    refine ⟨en, ?_, h2⟩
    rw [List.find?_cons]
    have : (Value.isStr (.str y t) x) = false := by simp [Value.isStr, this]
    simp only [this]; exact h1
theorem ers_none : ∀ {es : Es} {ces : List DictEntry} {x : PySem.Str}, ERs h es ces → x ∉ keysOf es → ces.find? (·.key.isStr x) = none
  | _, _, _, .nil, _ => rfl
  | _, _, x, .cons (x := y) (t := t) r rs, hn => by
    have h1 : y ≠ x := fun q => hn (q ▸ List.mem_cons_self)
    rw [List.find?_cons]
    have : (Value.isStr (.str y t) x) = false := by simp [Value.isStr, h1]
    simp only [this]; exact ers_none rs (fun q => hn (List.mem_cons_of_mem _ q))
theorem ers_keys : ∀ {es : Es} {ces : List DictEntry}, ERs h es ces → ces.any (·.refKey) = false
  | _, _, .nil => rfl
  | _, _, .cons r rs => by rw [List.any_cons, ers_keys rs]; rfl
theorem ers_length : ∀ {es : Es} {ces : List DictEntry}, ERs h es ces → es.length = ces.length
  | _, _, .nil => rfl
  | _, _, .cons r rs => by simp [ers_length rs]
theorem ers_set : ∀ {es : Es} {ces : List DictEntry} {x : PySem.Str} {v w : V} {cv : Value} {i : Nat} {hsh : Int} {key : Value}, ERs h es ces → EntAt es x w i → (keysOf es).Nodup → VR h v cv →
    ERs h (es.set i (x, v)) (putL x hsh key cv ces)
  | _, _, _, _, _, _, _, _, _, .cons r rs, .head, _, hv => by
    unfold putL
    simp only [Value.isStr, beq_self_eq_true, if_true]
    exact .cons hv rs
  | _, _, x, _, _, _, _, _, _, .cons (x := y) (t := t) r rs, .tail (i := i) e, hn, hv => by
    have hn' := List.nodup_cons.mp hn
    have h1 : y ≠ x := fun q => hn'.1 (q ▸ e.mem)
    unfold putL
    have : (Value.isStr (.str y t) x) = false := by simp [Value.isStr, h1]
    simp only [this, Bool.false_eq_true, if_false]
    exact .cons r (ers_set rs e hn'.2 hv)
theorem ers_new : ∀ {es : Es} {ces : List DictEntry} {x : PySem.Str} {v : V} {cv : Value} {hsh : Int} {tk : Tok}, ERs h es ces → x ∉ keysOf es → VR h v cv →
    ERs h (es ++ [(x, v)]) (putL x hsh (.str x tk) cv ces)
  | _, _, _, _, _, _, _, .nil, _, hv => .cons hv .nil
  | _, _, x, _, _, _, _, .cons (x := y) (t := t) r rs, hn, hv => by
    have h1 : y ≠ x := fun q => hn (q ▸ List.mem_cons_self)
    unfold putL
    have : (Value.isStr (.str y t) x) = false := by simp [Value.isStr, h1]
    simp only [this, Bool.false_eq_true, if_false]
    exact .cons r (ers_new rs (fun q => hn (List.mem_cons_of_mem _ q)) hv)
theorem putL_length (x : PySem.Str) (hsh : Int) (key v : Value) : ∀ es : List DictEntry, (putL x hsh key v es).length ≤ es.length + 1
  | [] => by simp [putL]
  | e :: r => by
    unfold putL
    split
    · simp
    · simp; exact putL_length x hsh key v r
end

section
variable {C : Cx} {f : Fx} {X : XT} {ρ : Loc} {σ : AH} {d : Nat} {ns : List (PySem.Str × NameKind)}

/-- an object of a class and its dict -/
theorem St.inst {F : AH} {s : Shared} {x dx Cc : Addr} {es : Es} (y : St C f ρ F σ s) (hx : σ x = some (.inst Cc dx)) (hd : σ dx = some (.dict es)) :
    ∃ ces n, ERs s.heap es ces ∧ s.heap.get? dx = some (dictOf ces n) ∧ W.InstAt s.heap x (instObj Cc dx) Cc (some (dictOf ces n)) := by
  obtain ⟨ces, n, ho, hr⟩ := y.obj hd
  exact ⟨ces, n, hr, ho, ⟨y.obj hx, rfl, rfl, ho⟩⟩

/-- a plain attribute of the instances of a class -/
structure AOwn (C : Cx) (Cc : Addr) (name : PySem.Str) : Prop where
  ga : plainGet C.K Cc name = true
  hd : hasDictIn C.K Cc = true
  attr : ∃ r, findIn C.K (.ref Cc) name = some r ∧ noGet C.K r = true
  sa : findIn C.K (.ref Cc) "__setattr__" = some (some (.builtin "object.__setattr__"))
  over : plainOver C.K Cc = true
  taker : takerIn C.K Cc name = some none

theorem VR.handed {h : Heap} {v : V} {cv : Value} (r : VR h v cv) (hs : ∀ i, v ≠ .stat (.builtin i)) : handedIn cv = true := by
  cases r with
  | stat => cases cv <;> first | rfl | exact absurd rfl (hs _)
  | _ => rfl

theorem O1.attr_own {x dx Cc : Addr} {es : Es} {name : PySem.Str} {v : V} {i : Nat} {e : Bool} {Q : V → AH → Prop} (A : AOwn C Cc name) (hx : σ x = some (.inst Cc dx)) (hd : σ dx = some (.dict es)) (hn : (keysOf es).Nodup) (he : EntAt es name v i)
    (hs : ∀ i, v ≠ .stat (.builtin i)) (h : Q v σ) : O1 C f X ρ (fun co => getAttr co name e) (.ref x) σ Q := fun F s ca y r => by
  cases r.refI
  obtain ⟨ces, n, hr, ho, I⟩ := y.inst hx hd
  obtain ⟨en, hf, rv⟩ := ers_find hr he hn
  obtain ⟨rr, h1, h2⟩ := A.attr
  have hl : lookIn name (dictOf ces n) = some (some en.val) := by rw [lookIn_dict]; unfold getL; rw [hf]
  exact get_value (Cx.inK y) I (plainGet_of A.ga).1 (findObj_own A.hd h1 h2 hl) (rv.handed hs) ⟨v, σ, y.toks _, rv, Tup.refl _, h⟩

/-- a property -/
structure AProp (C : Cx) (Cc : Addr) (name : PySem.Str) (fget : Addr) : Prop where
  ga : plainGet C.K Cc name = true
  cls : (clsIn C.K Cc).isSome = true
  p : ∃ pa rest, findIn C.K (.ref Cc) name = some (some (.ref pa)) ∧ specialIn C.K (.ref pa) "__get__" = some (some (.builtin "property.__get__")) ∧ takesIn C.K (.ref pa) = some true ∧ recIn C.K pa "property" = some (.ref fget :: rest)

/-- a method of a class -/
structure AMeth (C : Cx) (Cc : Addr) (name : PySem.Str) (fa : Addr) : Prop where
  ga : findIn C.K (.ref Cc) "__getattribute__" = some (some (.builtin "object.__getattribute__"))
  gt : findIn C.K (.ref Cc) "__getattr__" = some none
  fn : findIn C.K (.ref Cc) name = some (some (.ref fa))
  ty : typeIn C.K (.ref fa) = some (.type "function")

theorem OM.inst {x dx Cc fa : Addr} {es : Es} {name : PySem.Str} {Q : V → List V → AH → Prop} (A : AMeth C Cc name fa) (hx : σ x = some (.inst Cc dx)) (hd : σ dx = some (.dict es)) (hn : name ∉ keysOf es)
    (h : Q (.stat (.ref fa)) [.ref x] σ) : OM C f X ρ name (.ref x) σ Q := fun pl F s co y r => by
  cases r.refI
  obtain ⟨ces, n, hr, ho, I⟩ := y.inst hx hd
  have hl : shadowIn (some (dictOf ces n)) name = some false := by
    unfold shadowIn
    dsimp only
    rw [lookIn_dict]; unfold getL; rw [ers_none hr hn, ers_keys hr]; rfl
  exact method_fn (Cx.inK y) I A.ga A.gt A.fn A.ty hl ⟨_, _, σ, y, .stat, .cons .ref .nil, Tup.refl _, h⟩

theorem OM.deque {a : Addr} {vs : List V} {name : PySem.Str} {id : String} {Q : V → List V → AH → Prop} (ha : σ a = some (.deque vs)) (slot : Slot "collections.deque" name id) (hty : typeOf (.builtin id) = pure (.type "method_descriptor"))
    (h : Q (.stat (.builtin id)) [.ref a] σ) : OM C f X ρ name (.ref a) σ Q := fun pl F s co y r => by
  cases r.refI
  obtain ⟨cvs, k, ho, _⟩ := y.obj ha
  exact getMethod_builtin (y.typeIs ha) plainAttrs_deque slot hty (fun b e => by cases e; exact ⟨_, ho, rfl⟩) ⟨_, _, σ, y, .stat, .cons .ref .nil, Tup.refl _, h⟩
theorem OM.list {a : Addr} {vs : List V} {name : PySem.Str} {id : String} {Q : V → List V → AH → Prop} (ha : σ a = some (.list vs)) (slot : Slot "list" name id) (hty : typeOf (.builtin id) = pure (.type "method_descriptor"))
    (h : Q (.stat (.builtin id)) [.ref a] σ) : OM C f X ρ name (.ref a) σ Q := fun pl F s co y r => by
  cases r.refI
  obtain ⟨cvs, k, ho, _⟩ := y.obj ha
  exact getMethod_builtin ⟨_, ho, rfl⟩ PySem.F.plainAttrs_list slot hty (fun b e => by cases e; exact ⟨_, ho, rfl⟩) ⟨_, _, σ, y, .stat, .cons .ref .nil, Tup.refl _, h⟩
theorem OM.str {l : List Nat} {name : PySem.Str} {id : String} {Q : V → List V → AH → Prop} (slot : Slot "str" name id) (hty : typeOf (.builtin id) = pure (.type "method_descriptor"))
    (h : Q (.stat (.builtin id)) [.str l] σ) : OM C f X ρ name (.str l) σ Q := fun pl F s co y r => by
  obtain ⟨t, rfl⟩ := r.strI
  exact getMethod_builtin rfl PySem.F.plainAttrs_str slot hty (fun b e => by cases e) ⟨_, _, σ, y, .stat, .cons r .nil, Tup.refl _, h⟩

/-- storing an attribute -/
noncomputable def AS (C : Cx) (f : Fx) (X : XT) (ρ : Loc) (name : PySem.Str) (o v : V) (σ : AH) (Q : AH → Prop) : Prop :=
  ∀ F s co cv, St C f ρ F σ s → VR s.heap o co → VR s.heap v cv → wpAny C.M f.A (setAttr co name cv) (fun _ s' => ∃ σ', St C f ρ F σ' s' ∧ Tup s.heap s'.heap ∧ Q σ') (X F) s

theorem store_run {x dx Cc : Addr} {es es' : Es} {name : PySem.Str} {v : V} {Q : AH → Prop} (A : AOwn C Cc name) (hx : σ x = some (.inst Cc dx)) (hd : σ dx = some (.dict es)) (hsz : es.length ≤ 1000)
    (hes : ∀ (h : Heap) (ces : List DictEntry) (cv : Value) (hsh : Int) (tk : Tok), ERs h es ces → VR h v cv → ERs h es' (putL name hsh (.str name tk) cv ces))
    (h : Q (σ.set dx (.dict es'))) : AS C f X ρ name (.ref x) v σ Q := fun F s co cv y rx rv => by
  cases rx.refI
  obtain ⟨ces, n, hr, ho, I⟩ := y.inst hx hd
  have K1 := Cx.inK y
  refine set_plain K1 I A.sa ?_
  refine osa_open (s := { s with toks := s.toks + 1 }) K1 I A.over A.taker fun b => ?_
  obtain ⟨cd, hc, hd'⟩ := any_some A.hd
  refine wpAny_bind (wpAny_pure (wpAny_bind (wpAny_bind (wpAny_loadPart I.at_ (wpAny_bind (Looks.here (s := { s with toks := s.toks + 1 }) (looks_clsIn K1 hc) ?_))))))
  rw [hd']
  refine wpAny_pure (a := some dx) (wpAny_bind (wpAny_pure (wpAny_bind ?_)))
  unfold nsSet
  refine wpAny_bind (wpAny_bind (wpAny_askSetting (wpAny_pure (wpAny_bind (wpAny_mkText (wpAny_bind (wpAny_loadPart (o := dictOf ces n) ho ?_)))))))
  have c : (!(List.toArray ces).any (·.key.isStr name) && (List.toArray ces).any (·.refKey)) = false := by
    have : (List.toArray ces).any (·.refKey) = false := by
      rw [← Array.any_toList]; exact ers_keys hr
    rw [this, Bool.and_false]
  dsimp only
  rw [aRefKeyMayBeTheName_at, c]
  have hl := ers_length hr
  have e1 : ∀ hsh key, Obj.putName name hsh key cv (dictOf ces n) = dictOf (putL name hsh key cv ces) (putN name ces n) := fun hsh key => putName_dict ..
  have D' : ∀ hsh key, (s.heap.update dx (Obj.putName name hsh key cv)).get? dx = some (dictOf (putL name hsh key cv ces) (putN name ces n)) := fun hsh key => by
    have := Heap.get?_update_self (h := s.heap) (Obj.putName name hsh key cv) ho (by rw [e1]; rfl)
    rw [this, e1]
  have fin : ∀ (hsh : Int) (tk : Tok) (t : Nat), ∃ σ', St C f ρ F σ' { s with heap := s.heap.update dx (Obj.putName name hsh (.str name tk) cv), toks := t } ∧ Tup s.heap (s.heap.update dx (Obj.putName name hsh (.str name tk) cv)) ∧ Q σ' := fun hsh tk t => by
    have hs : Heap.SameBut dx s.heap (s.heap.update dx (Obj.putName name hsh (.str name tk) cv)) := Heap.SameBut.update ..
    have tp := (y.obj hd).tup hs
    have z := y.upd (o' := .dict es') hd hs ⟨_, _, D' _ _, (hes _ _ _ _ _ (hr.mono tp) (rv.mono tp))⟩ t
    exact ⟨_, z.1, z.2, h⟩
  refine wpAny_updatePart ho ?_
  refine wpAny_bind (wpAny_lookBehind (D' _ _) (pastItsLine_dict (by
    rw [List.size_toArray, sizeLine_eq]
    refine Nat.le_trans (putL_length name _ _ cv ces) ?_
    omega)) ?_)
  exact wpAny_pure (fin _ _ _)
theorem AS.own {x dx Cc : Addr} {es : Es} {name : PySem.Str} {v w : V} {i : Nat} {Q : AH → Prop} (A : AOwn C Cc name) (hx : σ x = some (.inst Cc dx)) (hd : σ dx = some (.dict es)) (hsz : es.length ≤ 1000) (hn : (keysOf es).Nodup) (he : EntAt es name w i)
    (h : Q (σ.set dx (.dict (es.set i (name, v))))) : AS C f X ρ name (.ref x) v σ Q :=
  store_run A hx hd hsz (fun _ _ _ _ _ a b => ers_set a he hn b) h
theorem AS.new {x dx Cc : Addr} {es : Es} {name : PySem.Str} {v : V} {Q : AH → Prop} (A : AOwn C Cc name) (hx : σ x = some (.inst Cc dx)) (hd : σ dx = some (.dict es)) (hsz : es.length ≤ 1000) (he : name ∉ keysOf es)
    (h : Q (σ.set dx (.dict (es ++ [(name, v)])))) : AS C f X ρ name (.ref x) v σ Q :=
  store_run A hx hd hsz (fun _ _ _ _ _ a b => ers_new a he b) h

noncomputable abbrev kAS (C : Cx) (f : Fx) (X : XT) (ρ : Loc) (name : PySem.Str) (v : V) (Q : AH → Prop) : V → AH → Prop := fun o σ₁ => AS C f X ρ name o v σ₁ Q
noncomputable abbrev kAS' (C : Cx) (f : Fx) (X : XT) (ρ : Loc) (name : PySem.Str) (o : V) (Q : AH → Prop) : V → AH → Prop := fun v σ₁ => AS C f X ρ name o v σ₁ Q
noncomputable abbrev kAug2 (C : Cx) (f : Fx) (X : XT) (ρ : Loc) (name : PySem.Str) (op : Operator) (value : Expr) (o : V) (Q : AH → Prop) : V → AH → Prop := fun old σ₂ => Ev C f X ρ (eval value f.env) σ₂ (kO2 C f X ρ (inplaceOp op) old (kAS' C f X ρ name o Q))
noncomputable abbrev kAug (C : Cx) (f : Fx) (X : XT) (ρ : Loc) (name : PySem.Str) (op : Operator) (value : Expr) (Q : AH → Prop) : V → AH → Prop := fun o σ₁ => O1 C f X ρ (fun co => getAttr co name true) o σ₁ (kAug2 C f X ρ name op value o Q)
theorem AsV.attr {o : Expr} {name : PySem.Str} {pos : Pos} {v : V} {Q : Loc → AH → Prop}
    (h : Ev C f X ρ (eval o f.env) σ (kAS C f X ρ name v (Q ρ))) : AsV C f X ρ (PySem.assign (.Attribute o name pos) f.env) v σ Q := fun F s cv x r => by
  rw [arm_assign_Attribute]
  refine wpAny_bind (wpAny_holding (wpAny_mono (h F s x) (fun co s₁ ⟨ov, σ₁, x₁, r₁, t₁, h₁⟩ => ?_) fun _ _ e => e))
  refine wpAny_bind (wpAny_standAt (wpAny_bind (wpAny_holding (wpAny_mono (h₁ F s₁ co cv x₁ r₁ (r.mono t₁)) (fun _ s₂ ⟨σ₂, x₂, t₂, h₂⟩ => ?_) fun _ _ e => e))))
  exact wpAny_release ⟨ρ, σ₂, x₂, t₁.trans t₂, h₂⟩

theorem Ex.aug_attr {o value : Expr} {name : PySem.Str} {tpos pos : Pos} {op : Operator} {Q : Fl → Loc → AH → Prop}
    (h : Ev C f X ρ (eval o f.env) σ (kAug C f X ρ name op value (Q .next ρ))) :
    Ex C f X ρ (exec (.AugAssign (.Attribute o name tpos) op value pos) f.env) σ Q := fun F s x =>
  wpAny_AugAssign_AttributeAny (wpAny_mono (h F s x) (fun co s₁ ⟨ov, σ₁, x₁, r₁, t₁, h₁⟩ => wpAny_mono (h₁ F s₁ co x₁ r₁) (fun cold s₂ ⟨old, σ₂, x₂, r₂, t₂, h₂⟩ =>
    wpAny_mono (h₂ F s₂ x₂) (fun cv s₃ ⟨v, σ₃, x₃, r₃, t₃, h₃⟩ => wpAny_mono (h₃ F s₃ cold cv x₃ (r₂.mono t₃) r₃) (fun cn s₄ ⟨nw, σ₄, x₄, r₄, t₄, h₄⟩ =>
      wpAny_mono (h₄ F s₄ co cn x₄ (r₁.mono ((t₂.trans t₃).trans t₄)) r₄) (fun _ s₅ ⟨σ₅, x₅, t₅, h₅⟩ => ⟨.next, ρ, σ₅, x₅, trivial, (((t₁.trans t₂).trans t₃).trans t₄).trans t₅, h₅⟩) fun _ _ e => e)
      fun _ _ e => e) fun _ _ e => e) fun _ _ e => e) fun _ _ e => e)
theorem Ex.aug_name {value : Expr} {x : PySem.Str} {i : Nat} {old : V} {tpos pos : Pos} {op : Operator} {Q : Fl → Loc → AH → Prop} (ok : f.Ok d ns) (hi : NameAt ns x .local i) (hv : ρ[i]? = some (some old))
    (h : Ev C f X ρ (eval value f.env) σ (kO2 C f X ρ (inplaceOp op) old fun new σ₂ => Q .next (ρ.set i (some new)) σ₂)) :
    Ex C f X ρ (exec (.AugAssign (.Name x tpos) op value pos) f.env) σ Q := fun F s y => by
  obtain ⟨m, hm, hr⟩ := y.locals
  obtain ⟨cv, e, r⟩ := hr i x old (ok.at hi).name hv
  refine wpAny_AugAssign_Name (wpAny_loadName_local ok.kind ((ok.at hi).lookup ok.nd) hm e ?_)
  refine wpAny_mono (h F s y) (fun cv₁ s₁ ⟨v, σ₁, x₁, r₁, t₁, h₁⟩ => wpAny_mono (h₁ F s₁ cv cv₁ x₁ (r.mono t₁) r₁) (fun cn s₂ ⟨nw, σ₂, x₂, r₂, t₂, h₂⟩ => ?_) fun _ _ e => e) fun _ _ e => e
  obtain ⟨m', hm', hr'⟩ := x₂.locals
  have hp : (f.env.scope.kind == .class || (f.env.scope.kind == .module && f.env.locals != f.env.globals)) = false := by rw [ok.kind]; rfl
  refine wpAny_storeName_local ((ok.at hi).lookup ok.nd) hm' (fun h' hn hs => ?_) hp
  have z := x₂.store ok.nd (ok.at hi).name r₂ hm' hr' hn hs (s₂.toks + 1)
  exact ⟨.next, _, σ₂, z.1, trivial, (t₁.trans t₂).trans z.2, h₂⟩
end
end Mine

namespace Mine

theorem tx_inj {a b : List Nat} : tx a = tx b ↔ a = b := by
  constructor
  · intro h; have := congrArg (fun s : PySem.Str => s.cps.toList) h; simpa [tx] using this
  · rintro rfl; rfl
theorem tx_beq (a b : List Nat) : (tx a == tx b) = decide (a = b) := by
  rw [Bool.eq_iff_iff]; simp [tx_inj]
theorem tx_append (a b : List Nat) : tx a ++ tx b = tx (a ++ b) := by
  show PySem.Str.append (tx a) (tx b) = _
  first | (simp [PySem.Str.append, tx]; done) | (unfold PySem.Str.append tx; simp)
theorem tx_length (a : List Nat) : (tx a).length = a.length := by simp [tx, PySem.Str.length]

section
variable {C : Cx} {f : Fx} {X : XT} {ρ : Loc} {σ : AH} {d : Nat} {ns : List (PySem.Str × NameKind)}

/-- arithmetic -/
theorem O2.add_int {a b : Int} {Q : V → AH → Prop} (h : Q (.int (a + b)) σ) : O2 C f X ρ (binaryOp .Add) (.int a) (.int b) σ Q := fun F s ca cb x ra rb => by
  obtain ⟨_, rfl⟩ := ra.intI; obtain ⟨_, rfl⟩ := rb.intI
  with_reducible refine PyProof.Rows.add_int ?_
  exact ⟨_, σ, x.toks _, .int, Tup.refl _, h⟩
theorem O2.sub_int {a b : Int} {Q : V → AH → Prop} (h : Q (.int (a - b)) σ) : O2 C f X ρ (binaryOp .Sub) (.int a) (.int b) σ Q := fun F s ca cb x ra rb => by
  obtain ⟨_, rfl⟩ := ra.intI; obtain ⟨_, rfl⟩ := rb.intI
  with_reducible refine PyProof.Rows.sub_int ?_
  exact ⟨_, σ, x.toks _, .int, Tup.refl _, h⟩
theorem O2.mod_int {a b : Int} {Q : V → AH → Prop} (hb : b ≠ 0) (h : Q (.int (a.fmod b)) σ) : O2 C f X ρ (binaryOp .Mod) (.int a) (.int b) σ Q := fun F s ca cb x ra rb => by
  obtain ⟨_, rfl⟩ := ra.intI; obtain ⟨_, rfl⟩ := rb.intI
  with_reducible refine PyProof.Rows.mod_int' hb ?_
  exact ⟨_, σ, x.toks _, .int, Tup.refl _, h⟩
theorem O2.div_int {a b : Int} {Q : V → AH → Prop} (hb : b ≠ 0) (hp : Builtin.divisionGoesByPylong a b = false) (h : Q (.int (a.fdiv b)) σ) : O2 C f X ρ (binaryOp .FloorDiv) (.int a) (.int b) σ Q := fun F s ca cb x ra rb => by
  obtain ⟨_, rfl⟩ := ra.intI; obtain ⟨_, rfl⟩ := rb.intI
  with_reducible refine PyProof.Rows.floordiv_int hb ?_ (.inl hp)
  exact ⟨_, σ, x.toks _, .int, Tup.refl _, h⟩
theorem O2.pow_int {a b : Int} {Q : V → AH → Prop} (hb : 0 ≤ b) (hs : (Builtin.Int.intBits a : Int) * b ≤ 2 ^ 27) (h : Q (.int (a ^ b.toNat)) σ) : O2 C f X ρ (binaryOp .Pow) (.int a) (.int b) σ Q := fun F s ca cb x ra rb => by
  obtain ⟨_, rfl⟩ := ra.intI; obtain ⟨_, rfl⟩ := rb.intI
  with_reducible refine PyProof.Rows.pow_int hb hs ?_
  exact ⟨_, σ, x.toks _, .int, Tup.refl _, h⟩
theorem O2.iadd_int {a b : Int} {Q : V → AH → Prop} (h : Q (.int (a + b)) σ) : O2 C f X ρ (inplaceOp .Add) (.int a) (.int b) σ Q := fun F s ca cb x ra rb => by
  obtain ⟨_, rfl⟩ := ra.intI; obtain ⟨_, rfl⟩ := rb.intI
  with_reducible refine PyProof.Rows.iadd_int ?_
  exact ⟨_, σ, x.toks _, .int, Tup.refl _, h⟩
theorem O2.add_str {a b : List Nat} {Q : V → AH → Prop} (hz : a.length + b.length ≤ 16777216) (h : Q (.str (a ++ b)) σ) : O2 C f X ρ (binaryOp .Add) (.str a) (.str b) σ Q := fun F s ca cb x ra rb => by
  obtain ⟨_, rfl⟩ := ra.strI; obtain ⟨_, rfl⟩ := rb.strI
  with_reducible refine PyProof.Rows.add_str (fun t k => ?_) (by rw [tx_length, tx_length, sizeLine_eq]; exact hz)
  refine ⟨_, σ, x.toks _, ?_, Tup.refl _, h⟩
  rw [tx_append]; exact .str
theorem O2.iadd_str {a b : List Nat} {Q : V → AH → Prop} (hz : a.length + b.length ≤ 16777216) (h : Q (.str (a ++ b)) σ) : O2 C f X ρ (inplaceOp .Add) (.str a) (.str b) σ Q := fun F s ca cb x ra rb => by
  obtain ⟨_, rfl⟩ := ra.strI; obtain ⟨_, rfl⟩ := rb.strI
  with_reducible refine PyProof.Rows.iadd_str (fun t k => ?_) (by rw [tx_length, tx_length, sizeLine_eq]; exact hz)
  refine ⟨_, σ, x.toks _, ?_, Tup.refl _, h⟩
  rw [tx_append]; exact .str
theorem O1.neg_int {a : Int} {Q : V → AH → Prop} (h : Q (.int (-a)) σ) : O1 C f X ρ (unaryOp .USub) (.int a) σ Q := fun F s ca x ra => by
  obtain ⟨_, rfl⟩ := ra.intI
  with_reducible refine PyProof.Rows.neg_int ?_
  exact ⟨_, σ, x.toks _, .int, Tup.refl _, h⟩
/-- comparisons -/
theorem O2.eq_int {a b : Int} {Q : V → AH → Prop} (h : Q (.bool (a == b)) σ) : O2 C f X ρ (compareOp .Eq) (.int a) (.int b) σ Q := fun F s ca cb x ra rb => by
  obtain ⟨_, rfl⟩ := ra.intI; obtain ⟨_, rfl⟩ := rb.intI
  with_reducible refine PyProof.Rows.eq_int ?_
  exact ⟨_, σ, x, .bool, Tup.refl _, h⟩
theorem O2.ne_int {a b : Int} {Q : V → AH → Prop} (h : Q (.bool (a != b)) σ) : O2 C f X ρ (compareOp .NotEq) (.int a) (.int b) σ Q := fun F s ca cb x ra rb => by
  obtain ⟨_, rfl⟩ := ra.intI; obtain ⟨_, rfl⟩ := rb.intI
  with_reducible refine PyProof.Rows.ne_int ?_
  exact ⟨_, σ, x, .bool, Tup.refl _, h⟩
theorem O2.lt_int {a b : Int} {Q : V → AH → Prop} (h : Q (.bool (decide (a < b))) σ) : O2 C f X ρ (compareOp .Lt) (.int a) (.int b) σ Q := fun F s ca cb x ra rb => by
  obtain ⟨_, rfl⟩ := ra.intI; obtain ⟨_, rfl⟩ := rb.intI
  with_reducible refine PyProof.Rows.lt_int ?_
  exact ⟨_, σ, x, .bool, Tup.refl _, h⟩
theorem O2.le_int {a b : Int} {Q : V → AH → Prop} (h : Q (.bool (decide (a ≤ b))) σ) : O2 C f X ρ (compareOp .LtE) (.int a) (.int b) σ Q := fun F s ca cb x ra rb => by
  obtain ⟨_, rfl⟩ := ra.intI; obtain ⟨_, rfl⟩ := rb.intI
  with_reducible refine PyProof.Rows.le_int ?_
  exact ⟨_, σ, x, .bool, Tup.refl _, h⟩
theorem O2.gt_int {a b : Int} {Q : V → AH → Prop} (h : Q (.bool (decide (b < a))) σ) : O2 C f X ρ (compareOp .Gt) (.int a) (.int b) σ Q := fun F s ca cb x ra rb => by
  obtain ⟨_, rfl⟩ := ra.intI; obtain ⟨_, rfl⟩ := rb.intI
  with_reducible refine PyProof.Rows.gt_int ?_
  exact ⟨_, σ, x, .bool, Tup.refl _, h⟩
theorem O2.ge_int {a b : Int} {Q : V → AH → Prop} (h : Q (.bool (decide (b ≤ a))) σ) : O2 C f X ρ (compareOp .GtE) (.int a) (.int b) σ Q := fun F s ca cb x ra rb => by
  obtain ⟨_, rfl⟩ := ra.intI; obtain ⟨_, rfl⟩ := rb.intI
  with_reducible refine PyProof.Rows.ge_int ?_
  exact ⟨_, σ, x, .bool, Tup.refl _, h⟩
theorem O2.eq_str {a b : List Nat} {Q : V → AH → Prop} (h : Q (.bool (decide (a = b))) σ) : O2 C f X ρ (compareOp .Eq) (.str a) (.str b) σ Q := fun F s ca cb x ra rb => by
  obtain ⟨_, rfl⟩ := ra.strI; obtain ⟨_, rfl⟩ := rb.strI
  with_reducible refine PyProof.Rows.eq_str ?_
  exact ⟨_, σ, x, by rw [tx_beq]; exact .bool, Tup.refl _, h⟩
theorem O2.ne_str {a b : List Nat} {Q : V → AH → Prop} (h : Q (.bool (!decide (a = b))) σ) : O2 C f X ρ (compareOp .NotEq) (.str a) (.str b) σ Q := fun F s ca cb x ra rb => by
  obtain ⟨_, rfl⟩ := ra.strI; obtain ⟨_, rfl⟩ := rb.strI
  with_reducible refine PyProof.Rows.ne_str ?_
  exact ⟨_, σ, x, by rw [bne, tx_beq]; exact .bool, Tup.refl _, h⟩
theorem O2.eq_str_none {b : List Nat} {Q : V → AH → Prop} (h : Q (.bool false) σ) : O2 C f X ρ (compareOp .Eq) (.str b) .none σ Q := fun F s ca cb x ra rb => by
  cases rb.noneI; obtain ⟨_, rfl⟩ := ra.strI
  with_reducible refine EqNone.eq_str_none ?_
  exact ⟨_, σ, x, .bool, Tup.refl _, h⟩
theorem O2.eq_none_none {Q : V → AH → Prop} (h : Q (.bool true) σ) : O2 C f X ρ (compareOp .Eq) .none .none σ Q := fun F s ca cb x ra rb => by
  cases ra.noneI; cases rb.noneI
  with_reducible refine EqNone.eq_none_none ?_
  exact ⟨_, σ, x, .bool, Tup.refl _, h⟩
/-- is -/
noncomputable def noneV : V → Bool
  | .none => true
  | _ => false
noncomputable def okIs : V → Bool
  | .stat (.type _) => true
  | .stat (.ref _) => true
  | .stat _ => false
  | _ => true
theorem isNone_plain {h : Heap} {a : V} {ca : Value} (ra : VR h a ca) (e : okIs a = true) : PySem.plainIs ca .none = true ∧ (ca == .none) = noneV a := by
  cases ra with
  | stat => cases ca <;> first | exact ⟨rfl, rfl⟩ | cases e
  | _ => exact ⟨rfl, rfl⟩
theorem O2.is_none {a : V} {Q : V → AH → Prop} (e : okIs a = true) (h : Q (.bool (noneV a)) σ) : O2 C f X ρ (compareOp .Is) a .none σ Q := fun F s ca cb x ra rb => by
  cases rb.noneI
  obtain ⟨p, q⟩ := isNone_plain ra e
  with_reducible refine wpAny_is_plain p ?_
  exact ⟨_, σ, x, by rw [q]; exact .bool, Tup.refl _, h⟩
theorem O2.isnot_none {a : V} {Q : V → AH → Prop} (e : okIs a = true) (h : Q (.bool (!noneV a)) σ) : O2 C f X ρ (compareOp .IsNot) a .none σ Q := fun F s ca cb x ra rb => by
  cases rb.noneI
  obtain ⟨p, q⟩ := isNone_plain ra e
  with_reducible refine wpAny_isNot_plain p ?_
  exact ⟨_, σ, x, by rw [q]; exact .bool, Tup.refl _, h⟩
/-- in -/
noncomputable def subS (y x : List Nat) : Bool := !(Builtin.Str.occurrences (tx x) (tx y) 0 (tx x).length 1).isEmpty
theorem subS_one (c : Nat) (x : List Nat) : subS [c] x = x.contains c := by
  unfold subS
  have := StrLaws.found_one (tx x) c
  rw [show tx [c] = ⟨#[c]⟩ from rfl, this]
  rw [Bool.eq_iff_iff]; simp only [tx, List.contains_iff_mem]; exact decide_eq_true_iff
theorem O2.in_str {y x : List Nat} {Q : V → AH → Prop} (h : Q (.bool (subS y x)) σ) : O2 C f X ρ (compareOp .In) (.str y) (.str x) σ Q := fun F s ca cb z ra rb => by
  obtain ⟨_, rfl⟩ := ra.strI; obtain ⟨_, rfl⟩ := rb.strI
  with_reducible refine PyProof.Rows.in_str ?_
  exact ⟨_, σ, z, .bool, Tup.refl _, h⟩
theorem O2.notin_str {y x : List Nat} {Q : V → AH → Prop} (h : Q (.bool (!subS y x)) σ) : O2 C f X ρ (compareOp .NotIn) (.str y) (.str x) σ Q := fun F s ca cb z ra rb => by
  obtain ⟨_, rfl⟩ := ra.strI; obtain ⟨_, rfl⟩ := rb.strI
  with_reducible refine PySem.P.notIn_str ?_
  exact ⟨_, σ, z, .bool, Tup.refl _, h⟩

/-- truth -/
theorem OT.bool {b : Bool} {Q : Bool → AH → Prop} (h : Q b σ) : OT C f X ρ (.bool b) σ Q := fun F s ca x r => by
  cases r.boolI; exact wpAny_truthy_bool ⟨σ, x, Tup.refl _, h⟩
theorem OT.int {i : Int} {Q : Bool → AH → Prop} (h : Q (i != 0) σ) : OT C f X ρ (.int i) σ Q := fun F s ca x r => by
  obtain ⟨_, rfl⟩ := r.intI
  with_reducible refine PyProof.Rows.truthy_int ?_
  exact ⟨σ, x, Tup.refl _, h⟩
theorem OT.str {l : List Nat} {Q : Bool → AH → Prop} (hz : l.length ≤ 16777216) (h : Q (!l.isEmpty) σ) : OT C f X ρ (.str l) σ Q := fun F s ca x r => by
  obtain ⟨t, rfl⟩ := r.strI
  refine PySem.P.truthy_str (by rw [tx_length]; omega) ⟨σ, x.toks _, Tup.refl _, ?_⟩
  rw [tx_length]
  have : ((l.length : Int) != 0) = !l.isEmpty := by
    cases l with
    | nil => rfl
    | cons a l => simp only [List.length_cons, List.isEmpty_cons, Bool.not_false, bne_iff_ne, ne_eq]; omega
  rw [this]; exact h
end
end Mine

namespace Mine

noncomputable def pslice {α : Type} (l : List α) (lo hi : Option Int) : List α :=
  (l.drop (lo.elim 0 (clipAt l.length))).take (hi.elim l.length (clipAt l.length) - lo.elim 0 (clipAt l.length))
theorem pslice_length_le {α : Type} (l : List α) (lo hi : Option Int) : (pslice l lo hi).length ≤ l.length := by
  unfold pslice; simp; omega
theorem VRs.pslice {h : Heap} {vs : List V} {cvs : List Value} (x : VRs h vs cvs) (lo hi : Option Int) : VRs h (pslice vs lo hi) (Mine.pslice cvs lo hi) := by
  unfold Mine.pslice
  rw [x.length]
  exact (x.drop _).take _
theorem slicePick_p (cvs : List Value) (lo hi : Option Int) : slicePick (List.toArray cvs) lo hi none = List.toArray (pslice cvs lo hi) := by
  rw [slicePick_plain]; simp [pslice]
theorem strSlice_p (l : List Nat) (lo hi : Option Int) : (Builtin.Str.strSliceIndices lo hi 1 l.length).filterMap ((tx l).cps[·]?) = pslice l lo hi := by
  have e : Builtin.Str.strSliceIndices lo hi 1 l.length = sliceRange (lo.elim 0 (clipAt l.length) : Nat) (hi.elim l.length (clipAt l.length) : Nat) 1 := by
    cases lo <;> cases hi <;> simp [Builtin.Str.strSliceIndices, clipAt_cast]
  rw [e, sliceRange_one, pick_run]
  simp [pslice, tx]
theorem strSlice_whole (l : List Nat) (lo hi : Option Int) (h : (Builtin.Str.strSliceIndices lo hi 1 l.length).length = l.length) : pslice l lo hi = l := by
  have e : Builtin.Str.strSliceIndices lo hi 1 l.length = sliceRange (lo.elim 0 (clipAt l.length) : Nat) (hi.elim l.length (clipAt l.length) : Nat) 1 := by
    cases lo <;> cases hi <;> simp [Builtin.Str.strSliceIndices, clipAt_cast]
  rw [e, sliceRange_one] at h
  simp at h
  have h1 : lo.elim 0 (clipAt l.length) ≤ l.length := by
    cases lo with
    | none => simp
    | some i => simp [clipAt]; omega
  have h2 : hi.elim l.length (clipAt l.length) ≤ l.length := by
    cases hi with
    | none => simp
    | some i => simp [clipAt]; omega
  unfold pslice
  by_cases hl : l.length = 0
  · have : l = [] := List.eq_nil_of_length_eq_zero hl
    subst this; simp
  · have a0 : lo.elim 0 (clipAt l.length) = 0 := by omega
    have b0 : hi.elim l.length (clipAt l.length) = l.length := by omega
    rw [a0, b0]; simp

section
variable {C : Cx} {f : Fx} {X : XT} {ρ : Loc} {σ : AH} {d : Nat} {ns : List (PySem.Str × NameKind)}

/-- displays -/
noncomputable abbrev kTup (Q : V → AH → Prop) : List V → AH → Prop := fun vs σ₁ => vs.length ≤ 16777216 ∧ Q (.tup vs) σ₁
theorem Ev.tuple {es : List Expr} {k : Nat} {pos : Pos} {Q : V → AH → Prop} (h : El C f X ρ (spliced (backTo pos (starEach es f.env))) σ (kTup Q)) :
    Ev C f X ρ (eval (.Tuple es k pos) f.env) σ Q := fun F s x => by
  refine PyProof.Rows.Tuple_ (wpAny_mono (h F s x) (fun cvs s₁ ⟨vs, σ₁, x₁, r₁, t₁, hz, h₁⟩ => ?_) fun _ _ e => e)
  have hk : ∀ b o, s₁.heap.get? b = some o → (s₁.heap.push { cls := .type "tuple", data := .seq (List.toArray cvs) }).get? b = some o := fun b o e => Heap.get?_push_of_some _ e
  have z := x₁.ext hk s₁.toks
  refine wpAny_newTuple ⟨.tup vs, σ₁, z.1, ?_, t₁.trans z.2, h₁⟩ (by have := r₁.length; rw [sizeLine_eq]; omega)
  exact .tup ⟨_, Heap.get?_push_size _ rfl, rfl, 0, rfl⟩ (r₁.mono z.2)
theorem Ev.list {es : List Expr} {pos : Pos} {Q : V → AH → Prop} (h : El C f X ρ (spliced (backTo pos (starEach es f.env))) σ fun vs σ₁ => vs.length ≤ 16777216 ∧ ∀ a, σ₁ a = none → Q (.ref a) (σ₁.set a (.list vs))) :
    Ev C f X ρ (eval (.List es pos) f.env) σ Q := fun F s x => by
  refine PyProof.Rows.List_ (wpAny_mono (h F s x) (fun cvs s₁ ⟨vs, σ₁, x₁, r₁, t₁, hz, h₁⟩ => ?_) fun _ _ e => e)
  have hk : ∀ b o, s₁.heap.get? b = some o → (s₁.heap.push { cls := .type "list", data := .seq (List.toArray cvs) }).get? b = some o := fun b o e => Heap.get?_push_of_some _ e
  have z := x₁.new (o := .list vs) hk ⟨cvs, 0, Heap.get?_push_size _ rfl, r₁.mono (Tup.ext hk)⟩ s₁.toks
  exact wpAny_newList ⟨.ref _, _, z.1, .ref, t₁.trans z.2, h₁ _ x₁.fresh.1⟩ (by have := r₁.length; rw [sizeLine_eq]; omega)

/-- subscripts -/
noncomputable def OS (C : Cx) (f : Fx) (X : XT) (ρ : Loc) (value slice : Expr) (o i : V) (σ : AH) (Q : V → AH → Prop) : Prop :=
  ∀ F s co ci, St C f ρ F σ s → VR s.heap o co → VR s.heap i ci → wpAny C.M f.A (subscriptTail value slice co ci) (EvP C f ρ F s.heap Q) (X F) s
noncomputable abbrev kOS (C : Cx) (f : Fx) (X : XT) (ρ : Loc) (value slice : Expr) (o : V) (Q : V → AH → Prop) : V → AH → Prop := fun i σ₂ => OS C f X ρ value slice o i σ₂ Q
noncomputable abbrev kSub (C : Cx) (f : Fx) (X : XT) (ρ : Loc) (value slice : Expr) (Q : V → AH → Prop) : V → AH → Prop := fun o σ₁ => Ev C f X ρ (eval slice f.env) σ₁ (kOS C f X ρ value slice o Q)
theorem Ev.subscript {value slice : Expr} {pos : Pos} {Q : V → AH → Prop}
    (h : Ev C f X ρ (eval value f.env) σ (kSub C f X ρ value slice Q)) : Ev C f X ρ (eval (.Subscript value slice pos) f.env) σ Q :=
  fun F s x => PyProof.Rows.Subscript_ (wpAny_mono (h F s x) (fun co s₁ ⟨o, σ₁, x₁, r₁, t₁, h₁⟩ => wpAny_mono (h₁ F s₁ x₁) (fun ci s₂ ⟨i, σ₂, x₂, r₂, t₂, h₂⟩ =>
    wpAny_mono (h₂ F s₂ co ci x₂ (r₁.mono t₂) r₂) (fun _ _ e => e.trans (t₁.trans t₂)) fun _ _ e => e) fun _ _ e => e) fun _ _ e => e)
noncomputable def idx (i : Int) (n : Nat) : Nat := (if i < 0 then i + n else i).toNat
theorem OS.list {value slice : Expr} {l : Addr} {vs : List V} {i : Int} {v : V} {Q : V → AH → Prop} (hl : σ l = some (.list vs)) (hlen : vs.length ≤ 16777216) (h0 : -(vs.length : Int) ≤ i) (h1 : i < vs.length) (hv : vs[idx i vs.length]? = some v) (h : Q v σ)
    (hs : ∀ o i, subscripted slice false o i = operate [o, i] (getItem o i) := by intros; with_unfolding_all rfl) : OS C f X ρ value slice (.ref l) (.int i) σ Q := fun F s co ci x ro ri => by
  cases ro.refI; obtain ⟨t, rfl⟩ := ri.intI
  obtain ⟨cvs, n, ho, hr⟩ := x.obj hl
  obtain ⟨cv, hcv, rv⟩ := hr.get hv
  have hlc := hr.length
  refine tail_any (T := "list") ⟨_, ho, rfl⟩ slot_list_getitem.lookup ?_ (hs _ _)
  by_cases hneg : i < 0
  · refine wpAny_getItem_list_neg (items := List.toArray cvs) (x := cv) ⟨_, ho, rfl, n, rfl⟩ hneg (by simp; omega) (by omega) ?_ ⟨v, σ, x, rv, Tup.refl _, h⟩
    have : (i + ((List.toArray cvs).size : Int)).toNat = idx i vs.length := by unfold idx; rw [if_pos hneg]; simp [hlc]
    rw [this]; simpa using hcv
  · refine wpAny_getItem_list (items := List.toArray cvs) (x := cv) ⟨_, ho, rfl, n, rfl⟩ (by omega) (by omega) ?_ ⟨v, σ, x, rv, Tup.refl _, h⟩
    have : i.toNat = idx i vs.length := by unfold idx; rw [if_neg hneg]
    rw [this]; simpa using hcv
theorem OS.tup {value slice : Expr} {vs : List V} {i : Int} {v : V} {Q : V → AH → Prop} (hlen : vs.length ≤ 16777216) (h0 : -(vs.length : Int) ≤ i) (h1 : i < vs.length) (hv : vs[idx i vs.length]? = some v) (h : Q v σ)
    (hs : ∀ o i, subscripted slice false o i = operate [o, i] (getItem o i) := by intros; with_unfolding_all rfl) : OS C f X ρ value slice (.tup vs) (.int i) σ Q := fun F s co ci x ro ri => by
  obtain ⟨a, cvs, rfl, ht, hr⟩ := ro.tupI; obtain ⟨t, rfl⟩ := ri.intI
  obtain ⟨cv, hcv, rv⟩ := hr.get hv
  have hlc := hr.length
  refine tail_any (T := "tuple") ht.typeIs slot_tuple_getitem.lookup ?_ (hs _ _)
  refine PyProof.Rows.getItem_tuple (items := List.toArray cvs) (j := idx i vs.length) ht (by omega) (by omega) ?_ (by simpa using hcv) ⟨v, σ, x, rv, Tup.refl _, h⟩
  unfold seqIndex? idx
  simp only [List.size_toArray, ← hlc]
  rw [if_pos]
  split <;> simp <;> omega
theorem OS.str {value slice : Expr} {l : List Nat} {i : Int} {c : Nat} {Q : V → AH → Prop} (hlen : l.length ≤ 16777216) (h0 : -(l.length : Int) ≤ i) (h1 : i < l.length) (hv : l[idx i l.length]? = some c) (h : Q (.str [c]) σ)
    (hs : ∀ o i, subscripted slice false o i = operate [o, i] (getItem o i) := by intros; with_unfolding_all rfl) : OS C f X ρ value slice (.str l) (.int i) σ Q := fun F s co ci x ro ri => by
  obtain ⟨t, rfl⟩ := ro.strI; obtain ⟨u, rfl⟩ := ri.intI
  refine tail_any (T := "str") rfl PySem.F.slot_str_getitem.lookup ?_ (hs _ _)
  refine PySem.P.getItem_str (c := c) ?_ ?_ ⟨.str [c], σ, x.toks _, .str, Tup.refl _, h⟩
  · simp; omega
  · have : seqIndex? i (tx l).length = some (idx i l.length) := by
      unfold seqIndex? idx
      rw [tx_length, if_pos]
      split <;> simp <;> omega
    rw [this]
    simpa [tx] using hv

/-- slices -/
inductive IsP : V → Option Int → Prop
  | none : IsP .none none
  | int {i : Int} : IsP (.int i) (some i)
noncomputable def Ep (C : Cx) (f : Fx) (X : XT) (ρ : Loc) (e : Option Expr) (σ : AH) (Q : Option Int → AH → Prop) : Prop :=
  ∀ F s, St C f ρ F σ s → wpAny C.M f.A (evalPart e f.env) (fun cv s' => ∃ p σ', St C f ρ F σ' s' ∧ ((p = none ∧ cv = .none) ∨ ∃ i t, p = some i ∧ cv = .int i t) ∧ Tup s.heap s'.heap ∧ Q p σ') (X F) s
theorem Ep.none {Q : Option Int → AH → Prop} (h : Q none σ) : Ep C f X ρ none σ Q := fun F s x => wpAny_evalPart_none ⟨_, σ, x, .inl ⟨rfl, rfl⟩, Tup.refl _, h⟩
noncomputable abbrev kInt (Q : Option Int → AH → Prop) : V → AH → Prop := fun v σ₁ => ∃ i, v = .int i ∧ Q (some i) σ₁
theorem Ep.some {e : Expr} {Q : Option Int → AH → Prop} (h : Ev C f X ρ (eval e f.env) σ (kInt Q)) : Ep C f X ρ (some e) σ Q := fun F s x =>
  wpAny_evalPart_some (wpAny_mono (h F s x) (fun cv s₁ ⟨v, σ₁, x₁, r₁, t₁, i, hv, h₁⟩ => by
    subst hv; obtain ⟨t, rfl⟩ := r₁.intI
    exact ⟨_, σ₁, x₁, .inr ⟨i, t, rfl, rfl⟩, t₁, h₁⟩) fun _ _ e => e)
noncomputable abbrev sliceObj (cl cu : Value) : Obj := { cls := .type "slice", data := .fields #[cl, cu, .none] }
/-- a slice is taken of a value -/
noncomputable def SlOp (C : Cx) (f : Fx) (X : XT) (ρ : Loc) (o : V) (lo hi : Option Int) (σ : AH) (Q : V → AH → Prop) : Prop :=
  ∀ (value slice : Expr) F s co sl cl cu h₀, (∀ co ci : Value, subscripted slice false co ci = operate [ci, co] (getItem co ci)) → St C f ρ F σ s → VR s.heap o co → s.heap.get? sl = some (sliceObj cl cu) → ((lo = none ∧ cl = .none) ∨ ∃ i t, lo = some i ∧ cl = .int i t) → ((hi = none ∧ cu = .none) ∨ ∃ i t, hi = some i ∧ cu = .int i t) → Tup h₀ s.heap →
    wpAny C.M f.A (subscriptTail value slice co (.ref sl)) (EvP C f ρ F h₀ Q) (X F) s
theorem Ev.slice_any {value : Expr} {lower upper : Option Expr} {p pos : Pos} {Q : V → AH → Prop} {P : V → Option Int → Option Int → AH → Prop} (hP : ∀ o lo hi σ, P o lo hi σ → SlOp C f X ρ o lo hi σ Q)
    (h : Ev C f X ρ (eval value f.env) σ fun o σ₁ => Ep C f X ρ lower σ₁ fun lo σ₂ => Ep C f X ρ upper σ₂ fun hi σ₃ => P o lo hi σ₃) : Ev C f X ρ (eval (.Subscript value (.Slice lower upper none p) pos) f.env) σ Q := fun F s x =>
  PyProof.Rows.Subscript_ (h.on x fun co o s₁ σ₁ x₁ r₁ t₁ h₁ => wpAny_Slice (wpAny_mono (h₁ F s₁ x₁) (fun cl s₂ ⟨lo, σ₂, x₂, e₂, t₂, h₂⟩ => wpAny_mono (h₂ F s₂ x₂) (fun cu s₃ ⟨hi, σ₃, x₃, e₃, t₃, h₃⟩ => wpAny_evalPart_none (by
    have hk : ∀ b ob, s₃.heap.get? b = some ob → (s₃.heap.push (sliceObj cl cu)).get? b = some ob := fun b ob e => Heap.get?_push_of_some _ e
    have z := x₃.ext hk s₃.toks
    exact hP _ _ _ _ h₃ value _ F _ co _ cl cu _ (fun _ _ => by with_unfolding_all rfl) z.1 (r₁.mono ((t₂.trans t₃).trans z.2)) (Heap.get?_push_size _ rfl) e₂ e₃ (((t₁.trans t₂).trans t₃).trans z.2))) fun _ _ e => e) fun _ _ e => e))
theorem part_of {lo : Option Int} {cl : Value} (e : (lo = none ∧ cl = .none) ∨ ∃ i t, lo = some i ∧ cl = .int i t) : IsPart cl lo := by rcases e with ⟨rfl, rfl⟩ | ⟨i, t, rfl, rfl⟩ <;> constructor
theorem part_val {lo : Option Int} {cl : Value} (e : (lo = none ∧ cl = .none) ∨ ∃ i t, lo = some i ∧ cl = .int i t) : ∃ lo' : Option (Int × Tok), cl = partValue lo' ∧ lo'.map (·.1) = lo := by
  rcases e with ⟨rfl, rfl⟩ | ⟨i, t, rfl, rfl⟩
  · exact ⟨none, rfl, rfl⟩
  · exact ⟨some (i, t), rfl, rfl⟩
/-- of a list, wherever it lies -/
theorem slice_list {value slice : Expr} {F : AH} {s : Shared} {l sl : Addr} {vs : List V} {cvs : List Value} {n : Nat} {ob : Obj} {cl cu : Value} {lo hi : Option Int} {h₀ : Heap} {Q : V → AH → Prop} (hsub : ∀ co ci : Value, subscripted slice false co ci = operate [ci, co] (getItem co ci)) (x : St C f ρ F σ s)
    (ho : s.heap.get? l = some ob) (hc : ob.cls = .type "list") (hd : ob.data = .seq (List.toArray cvs) n) (hr : VRs s.heap vs cvs) (hz : vs.length ≤ 16777216) (hs : s.heap.get? sl = some (sliceObj cl cu)) (pl : IsPart cl lo) (pu : IsPart cu hi) (tt : Tup h₀ s.heap)
    (hq : ∀ a, σ a = none → Q (.ref a) (σ.set a (.list (pslice vs lo hi)))) : wpAny C.M f.A (subscriptTail value slice (.ref l) (.ref sl)) (EvP C f ρ F h₀ Q) (X F) s := by
  refine tail_any (T := "list") ⟨_, ho, hc⟩ slot_list_getitem.lookup ?_ (hsub _ _)
  refine wpAny_getItem_list_slice (items := List.toArray cvs) ⟨_, ho, hc, n, hd⟩ ⟨_, hs, rfl, rfl⟩ pl pu .none (by simp) ?_ (by rw [List.size_toArray, ← hr.length]; exact hz)
  rw [slicePick_p]
  have hk2 : ∀ b ob, s.heap.get? b = some ob → (s.heap.push { cls := .type "list", data := .seq (List.toArray (pslice cvs lo hi)) }).get? b = some ob := fun b ob e => Heap.get?_push_of_some _ e
  have z2 := x.new (o := .list (pslice vs lo hi)) hk2 ⟨_, 0, Heap.get?_push_size _ rfl, (hr.mono (Tup.ext hk2)).pslice lo hi⟩ s.toks
  exact ⟨.ref _, _, z2.1, .ref, tt.trans z2.2, hq _ x.fresh.1⟩
theorem SlOp.list {l : Addr} {vs : List V} {lo hi : Option Int} {Q : V → AH → Prop} (hl : σ l = some (.list vs)) (hz : vs.length ≤ 16777216) (hq : ∀ a, σ a = none → Q (.ref a) (σ.set a (.list (pslice vs lo hi)))) : SlOp C f X ρ (.ref l) lo hi σ Q :=
  fun value slice F s co sl cl cu h₀ hsub x r hs e₂ e₃ tt => by
  cases r.refI
  obtain ⟨cvs, n, ho, hr⟩ := x.obj hl
  exact slice_list hsub x ho rfl rfl hr hz hs (part_of e₂) (part_of e₃) tt hq
theorem SlOp.str {l : List Nat} {lo hi : Option Int} {Q : V → AH → Prop} (hz : l.length ≤ 16777216) (hq : Q (.str (pslice l lo hi)) σ) : SlOp C f X ρ (.str l) lo hi σ Q :=
  fun value slice F s co sl cl cu h₀ hsub x r hs e₂ e₃ tt => by
  obtain ⟨t, rfl⟩ := r.strI
  refine tail_any (T := "str") rfl PySem.F.slot_str_getitem.lookup ?_ (hsub _ _)
  obtain ⟨lo', hlo, hlo'⟩ := part_val e₂
  obtain ⟨hi', hhi, hhi'⟩ := part_val e₃
  subst hlo hhi
  refine wpAny_getItem_str_slice (l := lo') (u := hi') (st := none) ⟨_, hs, rfl, rfl⟩ rfl ?_
  unfold sliceMade slicePicked
  rw [hlo', hhi', tx_length]
  have e1 : (Builtin.Str.strSliceIndices lo hi ((Option.map (fun x : Int × Tok => x.fst) none).getD 1) l.length).filterMap ((tx l).cps[·]?) = pslice l lo hi := strSlice_p l lo hi
  refine post_val_or_str ⟨?_, fun t' k => ?_⟩
  · split
    · rw [tx_length, sizeLine_eq]; exact hz
    · rw [e1]; show (tx (pslice l lo hi)).length ≤ _; rw [tx_length, sizeLine_eq]; exact Nat.le_trans (pslice_length_le ..) hz
  · refine ⟨.str (pslice l lo hi), σ, x.toks k, ?_, tt, hq⟩
    split
    · rename_i hc
      have : pslice l lo hi = l := strSlice_whole l lo hi (by simpa using hc)
      rw [this]; exact .str
    · rw [e1]; exact .str
end
end Mine

namespace Mine

noncomputable abbrev lsObj (cvs : List Value) (n : Nat) : Obj := ⟨.type "list", none, .seq (List.toArray cvs) n, #[]⟩

section
variable {C : Cx} {f : Fx} {X : XT} {ρ : Loc} {σ : AH} {d : Nat} {ns : List (PySem.Str × NameKind)}

/-- a list turned in place -/
theorem St.seqUpd {F : AH} {s : Shared} {l : Addr} {vs vs' : List V} {cvs cvs' : List Value} {n : Nat} {g : Array Value → Array Value} (x : St C f ρ F σ s) (hl : σ l = some (.list vs)) (ho : s.heap.get? l = some (lsObj cvs n))
    (hg : g (List.toArray cvs) = List.toArray cvs') (hr : VRs s.heap vs' cvs') (t : Nat) :
    St C f ρ F (σ.set l (.list vs')) { s with heap := s.heap.update l (Obj.mapSeq g), toks := t } ∧ Tup s.heap (s.heap.update l (Obj.mapSeq g)) := by
  have hs : Heap.SameBut l s.heap (s.heap.update l (Obj.mapSeq g)) := Heap.SameBut.update ..
  have tp := (x.obj hl).tup hs
  have e : ∃ n', (s.heap.update l (Obj.mapSeq g)).get? l = some (lsObj cvs' n') := by
    have := Heap.get?_update_self (h := s.heap) (Obj.mapSeq g) ho (by simp only [Obj.mapSeq]; rfl)
    rw [this]
    simp only [Obj.mapSeq, hg]
    exact ⟨_, rfl⟩
  obtain ⟨n', e⟩ := e
  exact x.upd (o' := .list vs') hl hs ⟨cvs', n', e, hr.mono tp⟩ t

theorem OC.append {l : Addr} {v : V} {vs : List V} {Q : V → AH → Prop} (hl : σ l = some (.list vs)) (hz : vs.length ≤ 16777215) (h : Q .none (σ.set l (.list (vs ++ [v])))) :
    OC C f X ρ (.stat (.builtin "list.append")) [.ref l, v] [] σ Q := OC.builtin fun F s cargs x r => by
  obtain ⟨_, cv, rfl, r', hv⟩ := r.two; cases r'.refI
  obtain ⟨cvs, n, ho, hr⟩ := x.obj hl
  have z := x.seqUpd (g := fun a => a.push cv) (vs' := vs ++ [v]) (cvs' := cvs ++ [cv]) hl ho (by simp) (hr.append (.cons hv .nil)) s.toks
  exact call_meets PySem.F.slot_list_append ⟨_, ho, rfl⟩ PySem.F.entry_list_append (PySem.F.args_list_append_2 _ _)
    (AutoListH.list_append_list_val_0 l (List.toArray cvs) n cv (by have := hr.length; rw [sizeLine_eq]; simp; omega)) ⟨ho, .none, _, z.1, .none, z.2, h⟩

theorem OC.len_str {l : List Nat} {Q : V → AH → Prop} (hz : l.length ≤ 16777216) (h : Q (.int l.length) σ) :
    OC C f X ρ (.stat (.builtin "len")) [.str l] [] σ Q := OC.builtin fun F s cargs x r => by
  obtain ⟨_, rfl, r'⟩ := r.one; obtain ⟨t, rfl⟩ := r'.strI
  refine PySem.P.len_str (by rw [tx_length]; omega) ⟨.int l.length, σ, x.toks _, ?_, Tup.refl _, h⟩
  rw [tx_length]; exact .int
theorem O2.add_list {l b : Addr} {vs ws : List V} {Q : V → AH → Prop} (hl : σ l = some (.list vs)) (hb : σ b = some (.list ws)) (hz : vs.length + ws.length ≤ 16777216) (h : ∀ a, σ a = none → Q (.ref a) (σ.set a (.list (vs ++ ws)))) :
    O2 C f X ρ (binaryOp .Add) (.ref l) (.ref b) σ Q := fun F s ca cb x ra rb => by
  cases ra.refI; cases rb.refI
  obtain ⟨cvs, n, ho, hr⟩ := x.obj hl
  obtain ⟨cws, n2, ho2, hr2⟩ := x.obj hb
  have hk : ∀ b ob, s.heap.get? b = some ob → (s.heap.push { cls := .type "list", data := .seq (List.toArray (cvs ++ cws)) }).get? b = some ob := fun b ob e => Heap.get?_push_of_some _ e
  have z := x.new (o := .list (vs ++ ws)) hk ⟨_, 0, Heap.get?_push_size _ rfl, (hr.append hr2).mono (Tup.ext hk)⟩ s.toks
  refine concat_meets ⟨_, ho, rfl⟩ ⟨_, ho2, rfl⟩ noFill_list_add seq_list_add PySem.F.slot_list_add PySem.F.entry_list_add (PySem.F.args_list_add_2 _ _)
    (list_addW l b (List.toArray cvs) (List.toArray cws) n n2 none none #[] #[] (by have := hr.length; have := hr2.length; rw [sizeLine_eq]; simp; omega)) ⟨ho, ho2, ?_⟩
  have e : List.toArray cvs ++ List.toArray cws = List.toArray (cvs ++ cws) := by simp
  rw [e]
  exact ⟨.ref _, _, z.1, .ref, z.2, h _ x.fresh.1⟩
/-- ranges -/
noncomputable def RangeO (a b c : Int) (o : Obj) : Prop := ∃ t u v, o = { cls := .type "range", data := .fields #[.int a t, .int b u, .int c v] }
theorem OC.range1 {n : Int} {Q : V → AH → Prop} (h : ∀ a, σ a = none → Q (.ref a) (σ.set a (.any (RangeO 0 n 1)))) : OC C f X ρ (.stat (.type "range")) [.int n] [] σ Q := fun F s cg cargs ckw x rg ra rk rkv => by
  cases rg.statI
  obtain rfl := kw_nil rk
  obtain ⟨_, rfl, r'⟩ := ra.one; obtain ⟨t, rfl⟩ := r'.intI
  have hk : ∀ b ob, s.heap.get? b = some ob → (s.heap.push { cls := .type "range", data := .fields #[.int 0 s.toks, .int n t, .int 1 (s.toks + 1)] }).get? b = some ob := fun b ob e => Heap.get?_push_of_some _ e
  have z := x.new (o := .any (RangeO 0 n 1)) hk ⟨_, Heap.get?_push_size _ rfl, ⟨_, _, _, rfl⟩, by simp⟩ (s.toks + 1 + 1)
  exact call_range_1 ⟨.ref _, _, z.1, .ref, z.2, h _ x.fresh.1⟩
theorem Iters.range {r : Addr} {a b c : Int} {n : Nat} (hh : f.A.handled = none) (hr : σ r = some (.any (RangeO a b c))) (hs : Builtin.Range.small a b c = true) (hn : Builtin.Range.rangeSize a b c = n) :
    Iters C f ρ (.ref r) σ (fun _ => True) ((List.range n).map fun k : Nat => .int (a + k * c)) := fun F s cv Q E x rv hq => by
  cases rv.refI
  obtain ⟨o, ho, ⟨t, u, v, rfl⟩, _⟩ := x.obj hr
  refine wpAny_pyIter_range ho hs (hq _ (fun (k : Nat) o => o = { cls := .type "range_iterator", data := .fields #[rawInt (a + k * c), rawInt ((n : Int) - k), rawInt c] }) s.toks (by rw [hn]; simp) rfl ⟨fun k o h => by rw [h]; rfl, fun g k F' σ' ρ' s' Q' E' x' hF hq => (by
    obtain ⟨oi, hoi, rfl, _⟩ := (x'.sat.obj _ _ (x'.atF hF)).1
    exact wpAny_pyIter_rangeiter hoi hq), ?_, ?_⟩)
  · intro g k v F' σ' ρ' s' Q' E' x' hF hsrc ht hv hq'
    obtain ⟨oi, hoi, rfl, _⟩ := (x'.sat.obj _ _ (x'.atF hF)).1
    rw [List.getElem?_map] at hv
    obtain ⟨j, hj, rfl⟩ := Option.map_eq_some_iff.mp hv
    have hjk : j = k ∧ k < n := by
      have h1 := (List.getElem?_eq_some_iff.mp hj)
      obtain ⟨h1, h2⟩ := h1
      simp at h1 h2
      exact ⟨h2.symm, h1⟩
    obtain ⟨rfl, hlt⟩ := hjk
    refine wpAny_pyNext_range_item (x := a + j * c) (left := (n : Int) - j) (step := c) hoi (by omega) fun h' hi hsb => ?_
    refine hq' _ h' _ .int ⟨_, hi, ?_, by simp⟩ hsb
    show _ = ({ cls := _, data := _ } : Obj)
    have e1 : a + (j : Int) * c + c = a + ((j + 1 : Nat) : Int) * c := by
      rw [Int.natCast_succ, Int.add_mul, Int.one_mul]; omega
    have e2 : (n : Int) - j - 1 = (n : Int) - ((j + 1 : Nat) : Int) := by omega
    rw [e1, e2]
  · intro g F' σ' ρ' s' Q' E' x' hF hsrc ht hq'
    obtain ⟨oi, hoi, rfl, _⟩ := (x'.sat.obj _ _ (x'.atF hF)).1
    exact wpAny_pyNext_range_end hh (x := a + (List.length ((List.range n).map fun k : Nat => V.int (a + k * c)) : Nat) * c) (left := (n : Int) - (List.length ((List.range n).map fun k : Nat => V.int (a + k * c)) : Nat)) (step := c) hoi (by simp) fun h' hs => hq' h' s'.toks hs
end
end Mine

namespace Mine

section
variable {prog : Program} {w : World} {A : Around} {E : Value → Shared → Prop} {s : Shared}
theorem draw_list {it t : Addr} {items : Array Value} (hne : t ≠ it) : ∀ (n i : Nat) (s : Shared) (Q : List Value → Shared → Prop), s.heap.IsListIter it t i → s.heap.IsList t items → i + n ≤ items.size →
    (∀ h', h'.IsListIter it t (i + n) → Heap.SameBut it s.heap h' → Q ((items.toList.drop i).take n) { s with heap := h' }) → wpAny (model prog w) A (draw (.ref it) n) Q E s
  | 0, i, s, Q, hit, _, _, hQ => by
    show wpAny _ _ (pure []) Q E s
    exact wpAny_pure (by simpa using hQ s.heap hit (Heap.SameBut.refl ..))
  | n + 1, i, s, Q, hit, ht, hle, hQ => by
    have hlt : i < items.size := by omega
    show wpAny _ _ (pyNext (.ref it) >>= _) Q E s
    refine wpAny_bind (wpAny_pyNext_list_item hit ht (x := items[i]) (by simp [hlt]) fun h₁ hit₁ hs₁ => ?_)
    refine wpAny_bind (wpAny_holding (draw_list hne n (i + 1) _ _ hit₁ (ht.extBut hs₁.extBut hne) (by omega) fun h₂ hit₂ hs₂ => wpAny_pure ?_))
    have hd : items.toList.drop i = items[i] :: items.toList.drop (i + 1) := by simp [List.drop_eq_getElem_cons, hlt]
    have := hQ h₂ (by rw [show i + (n + 1) = i + 1 + n by omega]; exact hit₂) (hs₁.trans hs₂)
    rw [hd, List.take_succ_cons] at this
    exact this
theorem unpackItems_list {t : Addr} {items : Array Value} {Q : List Value → Shared → Prop} (hh : A.handled = none) (ht : s.heap.IsList t items)
    (hQ : ∀ h', Heap.ExtBut s.heap.objs.size s.heap h' → Q items.toList { s with heap := h' }) : wpAny (model prog w) A (unpackItems (.ref t) items.size none) Q E s := by
  have hlt : t ≠ s.heap.objs.size := by obtain ⟨o, ho, _⟩ := ht; exact Nat.ne_of_lt (Heap.lt_size ho)
  unfold unpackItems
  refine wpAny_bind ?_
  unfold notIterableAtAll
  refine wpAny_bind (wpAny_specialOf ht.typeIs slot_list_iter.lookup ?_)
  refine wpAny_pure ?_
  simp only [Bool.false_eq_true, if_false]
  refine wpAny_bind (wpAny_holding (wpAny_pyIter_list ht ?_))
  refine wpAny_bind (wpAny_holding (draw_list hlt items.size 0 _ _ ⟨_, Heap.get?_push_size _ rfl, rfl, rfl⟩ (ht.push _) (by omega) fun h₁ hit₁ hs₁ => ?_))
  have hall : List.take items.size (List.drop 0 items.toList) = items.toList := by
    rw [List.drop_zero]; exact List.take_of_length_le (by simp)
  rw [hall]
  rw [if_neg (by simp)]
  have ht₁ : h₁.IsList t items := (ht.push _).extBut hs₁.extBut hlt
  refine wpAny_bind (wpAny_holding (wpAny_pyNext_list_end hh hit₁ ht₁ (by simp) fun h₂ he₂ => ?_))
  simp only [Option.isSome_none, Bool.false_eq_true, if_false]
  exact wpAny_pure (hQ h₂ fun b o hb e => he₂ b o hb (hs₁.extBut b o hb (Heap.get?_push_of_some _ e)))
end

section
variable {C : Cx} {f : Fx} {X : XT} {ρ : Loc} {σ : AH} {d : Nat} {ns : List (PySem.Str × NameKind)}

/-- stores of the parts of an unpacked sequence -/
noncomputable def AsL (C : Cx) (f : Fx) (X : XT) (ρ : Loc) (ts : List (Bool × (Value → Sem Unit))) (vs : List V) (σ : AH) (Q : Loc → AH → Prop) : Prop :=
  ∀ F s cvs, St C f ρ F σ s → VRs s.heap vs cvs → wpAny C.M f.A (assignInOrder (ts.map (·.2)) cvs) (fun _ s' => ∃ ρ' σ', St C f ρ' F σ' s' ∧ Tup s.heap s'.heap ∧ Q ρ' σ') (X F) s
theorem AsL.nil {Q : Loc → AH → Prop} (h : Q ρ σ) : AsL C f X ρ (assignEach [] f.env) [] σ Q := fun F s cvs x r => by
  cases r
  exact wpAny_pure ⟨ρ, σ, x, Tup.refl _, h⟩
theorem AsL.cons {t : Expr} {ts : List Expr} {v : V} {vs : List V} {Q : Loc → AH → Prop} (h : AsV C f X ρ (PySem.assign t f.env) v σ fun ρ₁ σ₁ => AsL C f X ρ₁ (assignEach ts f.env) vs σ₁ Q)
    (he : assignEach (t :: ts) f.env = (false, PySem.assign t f.env) :: assignEach ts f.env := by with_unfolding_all rfl) : AsL C f X ρ (assignEach (t :: ts) f.env) (v :: vs) σ Q := fun F s cvs x r => by
  cases r with | cons rv rs =>
  rename_i cv cvs
  rw [he]
  show wpAny _ _ (do holding cvs (PySem.assign t f.env cv); assignInOrder ((assignEach ts f.env).map (·.2)) cvs) _ _ s
  refine wpAny_bind (wpAny_holding (wpAny_mono (h F s cv x rv) (fun _ s₁ ⟨ρ₁, σ₁, x₁, t₁, h₁⟩ => ?_) fun _ _ e => e))
  exact wpAny_mono (h₁ F s₁ cvs x₁ (rs.mono t₁)) (fun _ s₂ ⟨ρ₂, σ₂, x₂, t₂, h₂⟩ => ⟨ρ₂, σ₂, x₂, t₁.trans t₂, h₂⟩) fun _ _ e => e
theorem ext_of_but {h h' : Heap} (x : Heap.ExtBut h.objs.size h h') : ∀ b o, h.get? b = some o → h'.get? b = some o := fun b o e => x b o (Nat.ne_of_lt (Heap.lt_size e)) e
theorem AsV.tuple {elts : List Expr} {k : Nat} {pos : Pos} {v : V} {vs : List V} {Q : Loc → AH → Prop} (hh : f.A.handled = none)
    (hv : v = .tup vs ∨ ∃ l, v = .ref l ∧ σ l = some (.list vs)) (hn : elts.length = vs.length) (h : AsL C f X ρ (assignEach elts f.env) vs σ Q)
    (hlen : (assignEach elts f.env).length = elts.length := by with_unfolding_all rfl) (hstar : (assignEach elts f.env).findIdx? (·.1) = none := by with_unfolding_all rfl) :
    AsV C f X ρ (PySem.assign (.Tuple elts k pos) f.env) v σ Q := fun F s cv x r => by
  rcases hv with rfl | ⟨l, rfl, hl⟩
  · obtain ⟨a, cvs, rfl, ht, hr⟩ := r.tupI
    refine wpAny_assign_Tuple hh ht (by rw [hlen, hn, hr.length]; simp) hstar fun h' he => ?_
    have z := x.ext (ext_of_but he) s.toks
    exact wpAny_mono (h F _ cvs z.1 (hr.mono z.2)) (fun _ s₂ ⟨ρ₂, σ₂, x₂, t₂, h₂⟩ => ⟨ρ₂, σ₂, x₂, z.2.trans t₂, h₂⟩) fun _ _ e => e
  · cases r.refI
    obtain ⟨cvs, n, ho, hr⟩ := x.obj hl
    rw [arm_assign_Tuple]
    refine wpAny_bind (wpAny_standAt ?_)
    unfold unpack
    have hsz : (assignEach elts f.env).length = (List.toArray cvs).size := by rw [hlen, hn, hr.length]; simp
    rw [hsz, hstar]
    refine wpAny_bind (wpAny_holding (unpackItems_list hh ⟨_, ho, rfl, n, rfl⟩ fun h' he => ?_))
    have z := x.ext (ext_of_but he) s.toks
    exact wpAny_mono (h F _ cvs z.1 (hr.mono z.2)) (fun _ s₂ ⟨ρ₂, σ₂, x₂, t₂, h₂⟩ => ⟨ρ₂, σ₂, x₂, z.2.trans t₂, h₂⟩) fun _ _ e => e

/-- two comparisons in a chain -/
theorem Et.compare2 {l m r : Expr} {op1 op2 : CmpOp} {pos : Pos} {wh : Sem Value} {Q : Bool → AH → Prop}
    (h : Ev C f X ρ (eval l f.env) σ fun a σ₁ => Ev C f X ρ (eval m f.env) σ₁ fun b σ₂ => O2 C f X ρ (compareOp op1) a b σ₂ fun c σ₃ => OT C f X ρ c σ₃ fun t σ₄ =>
      if t then Ev C f X ρ (eval r f.env) σ₄ fun e σ₅ => O2 C f X ρ (compareOp op2) b e σ₅ fun c' σ₆ => OT C f X ρ c' σ₆ Q else Q false σ₄)
    (hm : markedEach [op1, op2] [m, r] (evalEach [m, r] f.env) = [eval m f.env, eval r f.env] := by with_unfolding_all rfl) : Et C f X ρ (isTrue (.Compare l [op1, op2] [m, r] pos) f.env wh) σ Q := fun F s x => by
  have harm : isTrue (.Compare l [op1, op2] [m, r] pos) f.env wh = (do testChain pos (← eval l f.env) [op1, op2] (markedEach [op1, op2] [m, r] (evalEach [m, r] f.env))) := rfl
  rw [harm, hm]
  refine wpAny_bind (wpAny_mono (h F s x) (fun ca s₁ ⟨a, σ₁, x₁, r₁, t₁, h₁⟩ => ?_) fun _ _ e => e)
  show wpAny _ _ (do
    let rv ← holding [ca] (eval m f.env)
    standAt pos
    let c ← holding [ca, rv] (compareOp op1 ca rv)
    release [ca, rv] [c]
    if ← holding [c, rv] (truthy c) then testChain pos rv [op2] [eval r f.env] else pure false) _ _ s₁
  refine wpAny_bind (wpAny_holding (wpAny_mono (h₁ F s₁ x₁) (fun cb s₂ ⟨b, σ₂, x₂, r₂, t₂, h₂⟩ => ?_) fun _ _ e => e))
  refine wpAny_bind (wpAny_standAt (wpAny_bind (wpAny_holding (wpAny_mono (h₂ F s₂ ca cb x₂ (r₁.mono t₂) r₂) (fun cc s₃ ⟨c, σ₃, x₃, r₃, t₃, h₃⟩ => ?_) fun _ _ e => e))))
  refine wpAny_bind (wpAny_release (wpAny_bind (wpAny_holding (wpAny_mono (h₃ F s₃ cc x₃ r₃) (fun t s₄ ⟨σ₄, x₄, t₄, h₄⟩ => ?_) fun _ _ e => e))))
  have tt := ((t₁.trans t₂).trans t₃).trans t₄
  cases t with
  | false => exact wpAny_pure ⟨σ₄, x₄, tt, h₄⟩
  | true =>
    show wpAny _ _ (do
      let rv ← holding [cb] (eval r f.env)
      standAt pos
      let c ← operate [cb, rv] (compareOp op2 cb rv)
      holding [c] (truthy c)) _ _ s₄
    refine wpAny_bind (wpAny_holding (wpAny_mono (h₄ F s₄ x₄) (fun ce s₅ ⟨e, σ₅, x₅, r₅, t₅, h₅⟩ => ?_) fun _ _ e => e))
    refine wpAny_bind (wpAny_standAt (wpAny_bind (wpAny_operateT (wpAny_mono (h₅ F s₅ cb ce x₅ (r₂.mono ((t₃.trans t₄).trans t₅)) r₅) (fun cc' s₆ ⟨c', σ₆, x₆, r₆, t₆, h₆⟩ => ?_) fun _ _ e => e))))
    exact wpAny_holding (wpAny_mono (h₆ F s₆ cc' x₆ r₆) (fun t s₇ ⟨σ₇, x₇, t₇, h₇⟩ => ⟨σ₇, x₇, ((tt.trans t₅).trans t₆).trans t₇, h₇⟩) fun _ _ e => e)

/-- in a tuple of texts -/
noncomputable def isStrV (y : List Nat) : V → Bool
  | .str l => decide (l = y)
  | _ => false
noncomputable def allStr (ws : List V) : Bool := ws.all fun | .str _ => true | _ => false
noncomputable def isStrC (y : List Nat) : Value → Bool
  | .str z _ => z == tx y
  | _ => false
theorem vrs_strs {h : Heap} : ∀ {ws : List V} {cvs : List Value}, VRs h ws cvs → allStr ws = true → ∀ v ∈ cvs, ∃ z u, v = .str z u
  | _, _, .nil, _, v, hv => by cases hv
  | a :: ws, _, .cons p q, hs, v, hv => by
    simp only [allStr, List.all_cons, Bool.and_eq_true] at hs
    rcases List.mem_cons.mp hv with rfl | hm
    · cases a <;> simp at hs
      obtain ⟨u, rfl⟩ := p.strI
      exact ⟨_, u, rfl⟩
    · exact vrs_strs q (by simpa [allStr] using hs.2) v hm
theorem vrs_any {h : Heap} {y : List Nat} : ∀ {ws : List V} {cvs : List Value}, VRs h ws cvs → allStr ws = true → cvs.any (isStrC y) = ws.any (isStrV y)
  | _, _, .nil, _ => rfl
  | a :: ws, _, .cons p q, hs => by
    simp only [allStr, List.all_cons, Bool.and_eq_true] at hs
    rw [List.any_cons, List.any_cons, vrs_any q (by simpa [allStr] using hs.2)]
    cases a <;> simp at hs
    obtain ⟨u, rfl⟩ := p.strI
    simp only [isStrC, isStrV, tx_beq]
theorem O2.in_tup {y : List Nat} {ws : List V} {Q : V → AH → Prop} (hs : allStr ws = true) (h : Q (.bool (ws.any (isStrV y))) σ) : O2 C f X ρ (compareOp .In) (.str y) (.tup ws) σ Q := fun F s ca cb x ra rb => by
  obtain ⟨t, rfl⟩ := ra.strI
  obtain ⟨a, cvs, rfl, ht, hr⟩ := rb.tupI
  have h1 : ∀ v, v ∈ List.toArray cvs → SeqAt.EqAt f.A.in1 s v (.str (tx y) t) (isStrC y v) := by
    intro v hv
    obtain ⟨z, u, rfl⟩ := vrs_strs hr hs v (by simpa using hv)
    show SeqAt.EqAt _ _ _ _ (z == tx y)
    intro prog w E Q hq
    exact SeqAt.EqAt.str_str z u (tx y) t prog w E Q hq
  refine SeqAt.in_tupleAt (isStrC y) ht h1 ⟨.bool _, σ, x, ?_, Tup.refl _, h⟩
  have : (List.toArray cvs).any (isStrC y) = ws.any (isStrV y) := by rw [← Array.any_toList]; exact vrs_any hr hs
  rw [this]; exact .bool

end
end Mine

namespace Mine
/-- the def at an address -/
noncomputable def fnAt (K : Frag) (a : Addr) : FuncData := match K.lookup a with
  | some ⟨_, _, .func fd, _⟩ => fd
  | _ => { name := "", qualname := "", params := ⟨[], [], none, [], [], none, []⟩, body := .stmts [], scope := { kind := .function, names := [], isGenerator := false, isCoroutine := false }, globals := 0, closure := [], defaults := .none, kwdefaults := .none }
noncomputable def bodyOf (fd : FuncData) : List Stmt := match fd.body with | .stmts b => b | _ => []
noncomputable def namesOf (fd : FuncData) : List (PySem.Str × NameKind) := fd.scope.names
/-- what is to be looked at in a def -/
noncomputable def fnGood (K : Frag) (a : Addr) (n : Nat) : Bool := match K.lookup a with
  | some ⟨_, _, .func fd, _⟩ => (match fd.body with | .stmts _ => true | _ => false) && codeIn K fd.code fd.qualname && fd.globals == mainGlobals && fd.builtins == builtinsNs &&
      decide (fd.scope.names.map (·.1)).Nodup && (fd.scope.names.all fun x => x.2 != .cell) && ((fd.scope.names.take n).all fun x => x.2 == .local) && decide (n ≤ fd.scope.names.length) && ((fd.scope.names.map (·.1)).all (fun x => !(x == ("__debug__" : PySem.Str)))) &&
      !fd.scope.isCoroutine && !fd.scope.isGenerator && fd.scope.kind == .function
  | _ => false
section
variable {C : Cx} {f : Fx} {X : XT} {ρ : Loc} {σ : AH} {d : Nat} {ns : List (PySem.Str × NameKind)}
theorem OCc.defE {fa : Addr} {args : List V} {kw : List (PySem.Str × V)} {B : List V → Prop} {n : Nat} {Q : V → AH → Prop} (ok : f.Ok (d + 1) ns) (hg : fnGood C.K fa n = true) (hbind : BindsE C (fnAt C.K fa) args kw B n)
    (h : ∀ (f' : Fx) (bs : List V), B bs → bs.length = n → f'.Ok d (namesOf (fnAt C.K fa)) → (f.A.handled = none → f'.A.handled = none) → Ex C f' NoX (bs.map some ++ List.replicate ((namesOf (fnAt C.K fa)).length - bs.length) none) (execs (bodyOf (fnAt C.K fa)) f'.env) σ fun fl _ σ' => Q (retOf fl) σ') :
    OCc C f X ρ (.stat (.ref fa)) args kw σ Q := by
  unfold fnGood at hg
  split at hg
  · rename_i oc od fd osl hk
    have e : fnAt C.K fa = fd := by unfold fnAt; rw [hk]
    rw [e] at h hbind
    simp only [Bool.and_eq_true, decide_eq_true_eq, beq_iff_eq, Bool.not_eq_true'] at hg
    obtain ⟨⟨⟨⟨⟨⟨⟨⟨⟨⟨⟨h1, h2⟩, h3⟩, h4⟩, h5⟩, h6⟩, h7⟩, h8⟩, hdb⟩, h9⟩, h10⟩, h11⟩ := hg
    have hb : fd.body = .stmts (bodyOf fd) := by
      unfold bodyOf
      split at h1
      · rename_i q; rw [q]
      · cases h1
    exact OCc.fnE ok hk hb h2 h3 h4 h5 (by simpa using h6) (by simpa using h7) h8 hdb h9 h10 h11 hbind h
  · cases hg
theorem OCc.def {fa : Addr} {args : List V} {kw : List (PySem.Str × V)} {bs : List V} {Q : V → AH → Prop} (ok : f.Ok (d + 1) ns) (hg : fnGood C.K fa bs.length = true) (hbind : Binds C (fnAt C.K fa) args kw bs)
    (h : ∀ f' : Fx, f'.Ok d (namesOf (fnAt C.K fa)) → (f.A.handled = none → f'.A.handled = none) → Ex C f' NoX (bs.map some ++ List.replicate ((namesOf (fnAt C.K fa)).length - bs.length) none) (execs (bodyOf (fnAt C.K fa)) f'.env) σ fun fl _ σ' => Q (retOf fl) σ') :
    OCc C f X ρ (.stat (.ref fa)) args kw σ Q := OCc.defE ok hg hbind.toE fun f' bs hB _ ok' hh => by subst hB; exact h f' ok' hh
theorem OC.def {fa : Addr} {args : List V} {kw : List (PySem.Str × V)} {bs : List V} {Q : V → AH → Prop} (ok : f.Ok (d + 1) ns) (hg : fnGood C.K fa bs.length = true) (hbind : Binds C (fnAt C.K fa) args kw bs)
    (h : ∀ f' : Fx, f'.Ok d (namesOf (fnAt C.K fa)) → (f.A.handled = none → f'.A.handled = none) → Ex C f' NoX (bs.map some ++ List.replicate ((namesOf (fnAt C.K fa)).length - bs.length) none) (execs (bodyOf (fnAt C.K fa)) f'.env) σ fun fl _ σ' => Q (retOf fl) σ') :
    OC C f X ρ (.stat (.ref fa)) args kw σ Q := (OCc.def ok hg hbind h).oc
end

/-- the plain binding of values to names, by the kernel's own look -/
theorem Binds.of {C : Cx} {fd : FuncData} {args : List V} {kw : List (PySem.Str × V)} {bs : List V}
    (h : ∀ (s : Shared) cargs ckw, C.K.In s.heap → VRs s.heap args cargs → kw.map (·.1) = ckw.map (·.1) → VRs s.heap (kw.map (·.2)) (ckw.map (·.2)) →
      ∃ cs, VRs s.heap bs cs ∧ ∀ S, peek C.K S (bindArgs fd ⟨cargs, ckw⟩) = some (((fd.scope.names.map (·.1)).take bs.length).zip cs)) : Binds C fd args kw bs := fun A E Q s cargs ckw KI ra rk rkv q => by
  obtain ⟨cs, h1, h2⟩ := h s cargs ckw KI ra rk rkv
  exact (Looks.of_peek KI (h2 _)).here (q cs s.heap (fun _ _ e => e) h1)
theorem kw_zip {ckw : List (PySem.Str × Value)} {ns : List PySem.Str} {vs : List Value} (h1 : ns = ckw.map (·.1)) (h2 : ckw.map (·.2) = vs) : ckw = ns.zip vs := by
  subst h1 h2
  induction ckw with
  | nil => rfl
  | cons a l ih => exact congrArg (a :: ·) ih
theorem Binds.p1 {C : Cx} {fd : FuncData} {a : V} (h : ∀ S ca, peek C.K S (bindArgs fd ⟨[ca], []⟩) = some (((fd.scope.names.map (·.1)).take 1).zip [ca])) : Binds C fd [a] [] [a] :=
  Binds.of fun s cargs ckw KI ra rk rkv => by
    obtain ⟨_, rfl, r⟩ := ra.one
    obtain rfl := kw_nil rk
    exact ⟨_, .cons r .nil, fun S => h S _⟩
theorem Binds.p2 {C : Cx} {fd : FuncData} {a b : V} (h : ∀ S ca cb, peek C.K S (bindArgs fd ⟨[ca, cb], []⟩) = some (((fd.scope.names.map (·.1)).take 2).zip [ca, cb])) : Binds C fd [a, b] [] [a, b] :=
  Binds.of fun s cargs ckw KI ra rk rkv => by
    obtain ⟨_, _, rfl, r, r2⟩ := ra.two
    obtain rfl := kw_nil rk
    exact ⟨_, .cons r (.cons r2 .nil), fun S => h S _ _⟩
end Mine

namespace Mine
/-- the value of a local name -/
inductive GetAt : List (PySem.Str × NameKind) → Loc → PySem.Str → V → Prop
  | head {x v ns r} : GetAt ((x, .local) :: ns) (some v :: r) x v
  | tail {e a ns r x v} : GetAt ns r x v → GetAt (e :: ns) (a :: r) x v
inductive PutAt : List (PySem.Str × NameKind) → Loc → PySem.Str → V → Loc → Prop
  | head {x v a ns r} : PutAt ((x, .local) :: ns) (a :: r) x v (some v :: r)
  | tail {e a ns r r' x v} : PutAt ns r x v r' → PutAt (e :: ns) (a :: r) x v (a :: r')
theorem GetAt.name {ns : List (PySem.Str × NameKind)} {ρ : Loc} {x : PySem.Str} {v : V} (h : GetAt ns ρ x v) : ∃ i, NameAt ns x .local i ∧ ρ[i]? = some (some v) := by
  induction h with
  | head => exact ⟨0, .head, rfl⟩
  | tail _ ih => obtain ⟨i, a, b⟩ := ih; exact ⟨i + 1, .tail a, by simpa using b⟩
theorem PutAt.name {ns : List (PySem.Str × NameKind)} {ρ ρ' : Loc} {x : PySem.Str} {v : V} (h : PutAt ns ρ x v ρ') : ∃ i, NameAt ns x .local i ∧ ρ' = ρ.set i (some v) := by
  induction h with
  | head => exact ⟨0, .head, rfl⟩
  | tail _ ih => obtain ⟨i, a, rfl⟩ := ih; exact ⟨i + 1, .tail a, rfl⟩
section
variable {C : Cx} {f : Fx} {X : XT} {ρ ρ' : Loc} {σ : AH} {d : Nat} {ns : List (PySem.Str × NameKind)}
theorem Fx.Ok.nodbg {x : PySem.Str} {k : NameKind} {i : Nat} (ok : f.Ok d ns) (hi : NameAt ns x k i) : (x == ("__debug__" : PySem.Str)) = false := by
  have := List.all_eq_true.mp ok.dbg x (by rw [Fx.N, ok.names]; exact List.mem_of_getElem? hi.name)
  simpa using this
theorem Ev.loc {x : PySem.Str} {pos : Pos} {v : V} {Q : V → AH → Prop} (ok : f.Ok d ns) (hi : GetAt ns ρ x v) (h : Q v σ) : Ev C f X ρ (eval (.Name x pos) f.env) σ Q :=
  let ⟨_, a, b⟩ := hi.name; Ev.name_local ok a b h (ok.nodbg a)
theorem AsV.loc {x : PySem.Str} {pos : Pos} {v : V} {Q : Loc → AH → Prop} (ok : f.Ok d ns) (hi : PutAt ns ρ x v ρ') (h : Q ρ' σ) :
    AsV C f X ρ (PySem.assign (.Name x pos) f.env) v σ Q := by
  obtain ⟨i, a, rfl⟩ := hi.name
  exact AsV.name ok a h
noncomputable abbrev kPut (ns : List (PySem.Str × NameKind)) (ρ : Loc) (x : PySem.Str) (Q : Fl → Loc → AH → Prop) : V → AH → Prop := fun new σ₂ => ∃ ρ', PutAt ns ρ x new ρ' ∧ Q .next ρ' σ₂
theorem Ex.aug_loc {value : Expr} {x : PySem.Str} {old : V} {tpos pos : Pos} {op : Operator} {Q : Fl → Loc → AH → Prop} (ok : f.Ok d ns) (hi : GetAt ns ρ x old)
    (h : Ev C f X ρ (eval value f.env) σ (kO2 C f X ρ (inplaceOp op) old (kPut ns ρ x Q))) :
    Ex C f X ρ (exec (.AugAssign (.Name x tpos) op value pos) f.env) σ Q := by
  obtain ⟨i, a, b⟩ := hi.name
  refine Ex.aug_name ok a b (Ev.mono h fun v σ₁ h₁ F s ca cb x ra rb => wpAny_mono (h₁ F s ca cb x ra rb) (fun cv s' ⟨w, σ', x', r', t', ρ', hp, hq⟩ => ⟨w, σ', x', r', t', ?_⟩) fun _ _ e => e)
  obtain ⟨j, a', rfl⟩ := hp.name
  have : i = j := nodup_inj (l := ns.map (·.1)) (by have := ok.nd; rw [Fx.N, ok.names] at this; exact this) a.name a'.name
  subst this; exact hq
noncomputable def ofC (cs : List Char) : List Nat := cs.map Char.toNat
theorem Ev.const_chars {cs : List Char} {k : Nat} {pos : Pos} {Q : V → AH → Prop} (h : Q (.str (ofC cs)) σ) : Ev C f X ρ (eval (.Constant (.str (PySem.Str.ofString (String.ofList cs))) k pos) f.env) σ Q :=
  Ev.const_str (Fast.ofString_ofList cs) h
/-- a name of the program's top, or a built-in one -/
inductive Glob (C : Cx) (x : PySem.Str) : Value → Prop
  | top {v} : nsIn C.K mainGlobals x = some (some v) → Glob C x v
  | boot {v} : nsIn C.K mainGlobals x = some none → bootBuiltins x = some v → x ≠ "__name__" → Glob C x v
inductive GlobAt : List (PySem.Str × NameKind) → PySem.Str → Prop
  | head {x ns} : GlobAt ((x, .globalImplicit) :: ns) x
  | tail {e ns x} : GlobAt ns x → GlobAt (e :: ns) x
theorem GlobAt.name {ns : List (PySem.Str × NameKind)} {x : PySem.Str} (h : GlobAt ns x) : ∃ i, NameAt ns x .globalImplicit i := by
  induction h with
  | head => exact ⟨0, .head⟩
  | tail _ ih => obtain ⟨i, a⟩ := ih; exact ⟨i + 1, .tail a⟩
theorem Ev.glob {x : PySem.Str} {pos : Pos} {v : Value} {Q : V → AH → Prop} (ok : f.Ok d ns) (hi : GlobAt ns x) (e : Glob C x v) (h : Q (.stat v) σ) : Ev C f X ρ (eval (.Name x pos) f.env) σ Q := by
  obtain ⟨i, hi⟩ := hi.name
  cases e with
  | top e => exact Ev.name_glob ok hi e h (ok.nodbg hi)
  | boot e hv hn => exact Ev.name_builtin ok hi e hv hn h (ok.nodbg hi)
theorem set_none_inv {a b : Addr} {o' : AO} (e : (σ.set b o') a = none) : a ≠ b ∧ σ a = none := by
  unfold AH.set at e
  split at e
  · cases e
  · exact ⟨by assumption, e⟩
end
end Mine

namespace Mine
/-- the first place of a sign -/
noncomputable def pos? (c : Nat) : List Nat → Option Nat
  | [] => none
  | x :: r => if x = c then some 0 else (pos? c r).map (· + 1)
section
open Builtin Builtin.Str StrLaws
theorem occ_stay (s sub : PySem.Str) (hi : Nat) (a : Nat) : ∀ (l : List Nat) (f : Nat), (forIn l ((#[a] : Array Nat), f) (occBody s sub hi 1)).run.fst = #[a]
  | [], f => rfl
  | b :: l, f => by
    rw [List.forIn_cons]
    unfold occBody
    rw [if_neg (by simp)]
    exact occ_stay s sub hi a l f
theorem occ_first (l : List Nat) (c : Nat) : ∀ (n lo free : Nat), lo + n = l.length + 1 → free ≤ lo →
    (forIn (List.range' lo n) ((#[] : Array Nat), free) (occBody (tx l) (tx [c]) l.length 1)).run.fst.toList = (match pos? c (l.drop lo) with | some k => [lo + k] | none => [])
  | 0, lo, free, h, _ => by
    have : l.drop lo = [] := List.drop_eq_nil_of_le (by omega)
    rw [this]; rfl
  | n + 1, lo, free, h, hf => by
    rw [List.range'_succ, List.forIn_cons]
    have key := subAt_one (tx l) c lo
    have e : (tx l).cps.toList = l := rfl
    have e2 : (tx l).length = l.length := rfl
    have e3 : (⟨#[c]⟩ : PySem.Str) = tx [c] := rfl
    rw [e, e2, e3] at key
    unfold occBody
    by_cases hc : l[lo]? = some c
    · obtain ⟨k1, k2⟩ := key.mpr hc
      rw [if_pos ⟨⟨⟨by simp, hf⟩, k1⟩, k2⟩]
      show (forIn _ ((#[lo] : Array Nat), _) (occBody (tx l) (tx [c]) l.length 1)).run.fst.toList = _
      rw [occ_stay]
      obtain ⟨hlt, hg⟩ := List.getElem?_eq_some_iff.mp hc
      rw [List.drop_eq_getElem_cons hlt, hg]
      simp [pos?]
    · rw [if_neg (fun q => hc (key.mp ⟨q.1.2, q.2⟩))]
      show (forIn _ ((#[] : Array Nat), free) (occBody (tx l) (tx [c]) l.length 1)).run.fst.toList = _
      rw [show lo + 1 = lo + 1 from rfl, occ_first l c n (lo + 1) free (by omega) (by omega)]
      by_cases hlt : lo < l.length
      · rw [List.drop_eq_getElem_cons hlt]
        have : l[lo] ≠ c := fun q => hc (by rw [List.getElem?_eq_getElem hlt, q])
        simp only [pos?, this, if_false]
        cases pos? c (l.drop (lo + 1)) with
        | none => rfl
        | some k => simp; omega
      · rw [List.drop_eq_nil_of_le (Nat.le_of_not_lt hlt), List.drop_eq_nil_of_le (by omega)]; rfl
theorem occ_nl (l : List Nat) (c lo : Nat) (h : lo ≤ l.length) : occurrences (tx l) (tx [c]) lo l.length 1 = (match pos? c (l.drop lo) with | some k => [lo + k] | none => []) := by
  rw [occ_eq]
  exact occ_first l c _ lo lo (by omega) (Nat.le_refl _)
theorem gives_str_find_in (x y : PySem.Str) (i : Int) (t u v z : Tok) : Gives («str.find» ⟨[.str x t, .str y u, .int i v, .int (x.length : Int) z], []⟩) (.int (match occurrences x y (fromIndex x.length i) x.length 1 with | k :: _ => (k : Int) | [] => -1)) := by
  show Gives (match occurrences x y (fromIndex x.length i) (min (max 0 (if (x.length : Int) < 0 then (x.length : Int) + x.length else (x.length : Int))).toNat x.length) 1 with | k :: _ => retInt k | [] => (do rule "str.find.not-found"; retInt (-1))) _
  have : min (max 0 (if (x.length : Int) < 0 then (x.length : Int) + x.length else (x.length : Int))).toNat x.length = x.length := by
    rw [if_neg (by omega)]; omega
  rw [this]
  cases occurrences x y (fromIndex x.length i) x.length 1 with
  | nil => exact .rule (.of_eq rfl)
  | cons k _ => exact .of_eq rfl
end
section
variable {C : Cx} {f : Fx} {X : XT} {ρ ρ' : Loc} {σ : AH} {d : Nat} {ns : List (PySem.Str × NameKind)}
theorem OC.find3 {l : List Nat} {c lo : Nat} {Q : V → AH → Prop} (hlo : lo ≤ l.length) (h : Q (.int (match pos? c (l.drop lo) with | some k => (lo : Int) + k | none => -1)) σ) :
    OC C f X ρ (.stat (.builtin "str.find")) [.str l, .str [c], .int lo, .int l.length] [] σ Q := OC.builtin fun F s cargs x r => by
  cases r with | cons r1 r => cases r with | cons r2 r => cases r with | cons r3 r => cases r with | cons r4 r => cases r with | nil =>
  obtain ⟨_, rfl⟩ := r1.strI; obtain ⟨_, rfl⟩ := r2.strI; obtain ⟨_, rfl⟩ := r3.intI; obtain ⟨_, rfl⟩ := r4.intI
  refine call_gives PySem.F.slot_str_find (typeIs_str _ _ _) PySem.F.entry_str_find (PySem.F.args_str_find_4 _ _ _ _) (gives_str_find_in (tx l) (tx [c]) lo _ _ _ _) ?_
  refine ⟨.int _, σ, x.toks _, .int, Tup.refl _, ?_⟩
  have e : fromIndex (tx l).length (lo : Int) = lo := by
    unfold fromIndex; rw [if_neg (by omega)]; omega
  have e2 : (tx l).length = l.length := rfl
  rw [e, e2, occ_nl l c lo hlo]
  cases hp : pos? c (l.drop lo) with
  | none => rw [hp] at h; exact h
  | some k => rw [hp] at h; simpa using h
theorem OC.isi_str {l : List Nat} {Q : V → AH → Prop} (h : Q (.bool true) σ) : OC C f X ρ (.stat (.builtin "isinstance")) [.str l, .stat (.type "str")] [] σ Q := OC.builtin fun F s cargs x r => by
  obtain ⟨_, _, rfl, r1, r2⟩ := r.two
  obtain ⟨_, rfl⟩ := r1.strI; cases r2.statI
  exact PySem.IsiPair.str_str ⟨.bool _, σ, x, .bool, Tup.refl _, h⟩
theorem OC.type_of {v : V} {T : String} {Q : V → AH → Prop} (hv : (T = "int" ∧ ∃ i, v = .int i) ∨ (T = "str" ∧ ∃ l, v = .str l)) (h : Q (.stat (.type T)) σ) : OC C f X ρ (.stat (.type "type")) [v] [] σ Q := fun F s cg cargs ckw x rg r rk rkv => by
  cases rg.statI
  obtain ⟨_, rfl, r1⟩ := r.one
  obtain rfl := kw_nil rk
  rcases hv with ⟨rfl, i, rfl⟩ | ⟨rfl, l, rfl⟩
  · obtain ⟨_, rfl⟩ := r1.intI
    exact call_type_of (Tx := "int") rfl (by decide +kernel) ⟨_, σ, x, .stat, Tup.refl _, h⟩
  · obtain ⟨_, rfl⟩ := r1.strI
    exact call_type_of (Tx := "str") rfl (by decide +kernel) ⟨_, σ, x, .stat, Tup.refl _, h⟩
theorem OC.int_int {i : Int} {Q : V → AH → Prop} (h : Q (.int i) σ) : OC C f X ρ (.stat (.type "int")) [.int i] [] σ Q := fun F s cg cargs ckw x rg r rk rkv => by
  cases rg.statI
  obtain ⟨_, rfl, r1⟩ := r.one
  obtain rfl := kw_nil rk
  obtain ⟨_, rfl⟩ := r1.intI
  exact call_int_int ⟨_, σ, x, .int, Tup.refl _, h⟩
theorem O2.isnot_type {S T : String} {Q : V → AH → Prop} (h : Q (.bool (!(Value.type S == Value.type T))) σ) : O2 C f X ρ (compareOp .IsNot) (.stat (.type S)) (.stat (.type T)) σ Q := fun F s ca cb x ra rb => by
  cases ra.statI; cases rb.statI
  with_reducible refine wpAny_isNot_plain rfl ?_
  exact ⟨_, σ, x, .bool, Tup.refl _, h⟩
/-- one unit deeper -/
noncomputable abbrev Fx.in1 (f : Fx) : Fx := ⟨f.A.in1, f.env, f.outer, f.stack⟩
theorem Fx.Ok.in1 (ok : f.Ok (d + 1) ns) : f.in1.Ok d ns :=
  ⟨ok.names, ok.kind, ok.globals, ok.builtins, ok.frame, ok.nd, ok.dbg, by have := ok.depth; show f.A.depth + d < _; omega, by have := ok.units; show f.A.units + 1 + 4 * d + 16 < _; omega, ok.frames⟩
theorem O1.prop {x dx Cc fget : Addr} {es : Es} {name : PySem.Str} {e : Bool} {Q : V → AH → Prop} (ok : f.Ok (d + 1) ns) (A : AProp C Cc name fget) (hx : σ x = some (.inst Cc dx)) (hd : σ dx = some (.dict es))
    (h : OCc C f.in1 NoX ρ (.stat (.ref fget)) [.ref x] [] σ fun v σ' => (∀ i, v ≠ .stat (.builtin i)) ∧ Q v σ') : O1 C f X ρ (fun co => getAttr co name e) (.ref x) σ Q := fun F s ca y r => by
  cases r.refI
  obtain ⟨ces, n, hr, ho, I⟩ := y.inst hx hd
  obtain ⟨pa, rest, p1, p2, p3, p4⟩ := A.p
  have KI := Cx.inK y
  refine get_bind KI I (plainGet_of A.ga).1 (findObj_data (by cases hc : clsIn C.K Cc with | none => have := A.cls; rw [hc] at this; cases this | some => rfl) p1 p2 p3) (plainGet_of A.ga).2 (wpAny_call (prop_get (s := { s with toks := s.toks + 1 }) KI p4 ?_))
  have y' : St C f.in1 ρ F σ { s with toks := s.toks + 1 } := ⟨y.dis, (y.toks _).sat⟩
  have := h F _ (.ref fget) [.ref x] [] y' .stat (.cons .ref .nil) rfl .nil
  refine codeAny_mono this fun r s' hr' => ?_
  cases r with
  | error e => exact hr'.elim
  | ok v => cases v with
    | ret v =>
      obtain ⟨w, σ', x', rv, tt, h1, h2⟩ := hr'
      show wpAny _ _ (handedOut v) _ _ _
      rw [handedOut_of (rv.handed h1)]
      exact wpAny_pure ⟨w, σ', ⟨x'.dis, x'.sat⟩, rv, tt, h2⟩
    | _ => exact hr'.elim
end
end Mine

namespace Mine
/-- a heap with these objects laid over it -/
noncomputable def ov : List Addr → List AO → AH → AH
  | k :: ks, o :: os, σ => (ov ks os σ).set k o
  | _, _, σ => σ
inductive GetO : List Addr → List AO → Addr → AO → Prop
  | head {k o ks os} : GetO (k :: ks) (o :: os) k o
  | tail {k o ks os a p} : GetO ks os a p → GetO (k :: ks) (o :: os) a p
inductive PutO : List Addr → List AO → Addr → AO → List AO → Prop
  | head {k o p ks os} : PutO (k :: ks) (o :: os) k p (p :: os)
  | tail {k o ks os a p os'} : PutO ks os a p os' → PutO (k :: ks) (o :: os) a p (o :: os')
theorem GetO.mem {K : List Addr} {O : List AO} {a : Addr} {o : AO} (h : GetO K O a o) : a ∈ K := by
  induction h with
  | head => exact List.mem_cons_self ..
  | tail _ ih => exact List.mem_cons_of_mem _ ih
theorem PutO.mem {K : List Addr} {O O' : List AO} {a : Addr} {o : AO} (h : PutO K O a o O') : a ∈ K := by
  induction h with
  | head => exact List.mem_cons_self ..
  | tail _ ih => exact List.mem_cons_of_mem _ ih
theorem ov_get {K : List Addr} {O : List AO} {a : Addr} {o : AO} {σ : AH} (hn : K.Nodup) (h : GetO K O a o) : ov K O σ a = some o := by
  induction h with
  | head => exact AH.set_self ..
  | tail h ih =>
    rw [List.nodup_cons] at hn
    exact (AH.set_ne _ _ (fun q => hn.1 (by rw [← q]; exact h.mem))).trans (ih hn.2)
theorem AH.set_set (σ : AH) (a : Addr) (o p : AO) : (σ.set a o).set a p = σ.set a p := by funext b; unfold AH.set; split <;> rfl
theorem AH.set_comm (σ : AH) {a b : Addr} (o p : AO) (h : a ≠ b) : (σ.set a o).set b p = (σ.set b p).set a o := by
  funext c; unfold AH.set
  by_cases h1 : c = a
  · subst h1; rw [if_pos rfl, if_neg h]
    rw [if_pos rfl]
  · rw [if_neg h1, if_neg h1]
theorem ov_set {K : List Addr} {O O' : List AO} {a : Addr} {p : AO} {σ : AH} (hn : K.Nodup) (h : PutO K O a p O') : (ov K O σ).set a p = ov K O' σ := by
  induction h with
  | head => exact AH.set_set ..
  | tail h ih =>
    rw [List.nodup_cons] at hn
    show (AH.set (ov _ _ σ) _ _).set _ _ = (ov _ _ σ).set _ _
    rw [AH.set_comm _ _ _ (fun q => hn.1 (by rw [q]; exact h.mem)), ih hn.2]
theorem ov_none {K : List Addr} {O : List AO} {a : Addr} {σ : AH} (hl : K.length = O.length) (h : ov K O σ a = none) : a ∉ K ∧ σ a = none := by
  induction K generalizing O with
  | nil => exact ⟨by simp, by cases O <;> exact h⟩
  | cons k K ih =>
    cases O with
    | nil => cases hl
    | cons o O =>
      obtain ⟨h1, h2⟩ := set_none_inv h
      obtain ⟨h3, h4⟩ := ih (by simpa using hl) h2
      exact ⟨by simp [h1, h3], h4⟩
theorem ov_new {K : List Addr} {O : List AO} {a : Addr} {σ : AH} (hn : K.Nodup) (hl : K.length = O.length) (h : ov K O σ a = none) : (a :: K).Nodup := List.nodup_cons.mpr ⟨(ov_none hl h).1, hn⟩
/-- several put at once -/
inductive PutAll (K : List Addr) : List AO → List Addr → List AO → List AO → Prop
  | nil {O} : PutAll K O [] [] O
  | cons {O k ks p ps O₁ O₂} : PutAll K O ks ps O₁ → PutO K O₁ k p O₂ → PutAll K O (k :: ks) (p :: ps) O₂
theorem ov_ov {K ks : List Addr} {O ps O' : List AO} {σ : AH} (hn : K.Nodup) (h : PutAll K O ks ps O') : ov ks ps (ov K O σ) = ov K O' σ := by
  induction h with
  | nil => rfl
  | cons _ p ih => exact (congrArg (fun τ => AH.set τ _ _) ih).trans (ov_set hn p)

/-- the fields of an object, by the list of its keys -/
inductive GetF : List PySem.Str → List V → PySem.Str → V → Prop
  | head {x v ks vs} : GetF (x :: ks) (v :: vs) x v
  | tail {y w ks vs x v} : GetF ks vs x v → GetF (y :: ks) (w :: vs) x v
inductive PutF : List PySem.Str → List V → PySem.Str → V → List V → Prop
  | head {x v w ks vs} : PutF (x :: ks) (w :: vs) x v (v :: vs)
  | tail {y w ks vs x v vs'} : PutF ks vs x v vs' → PutF (y :: ks) (w :: vs) x v (w :: vs')
noncomputable abbrev fields (ks : List PySem.Str) (vs : List V) : AO := .dict (ks.zip vs)
theorem GetF.mem {ks : List PySem.Str} {vs : List V} {x : PySem.Str} {v : V} (h : GetF ks vs x v) : x ∈ ks := by
  induction h with
  | head => exact List.mem_cons_self ..
  | tail _ ih => exact List.mem_cons_of_mem _ ih
theorem PutF.mem {ks : List PySem.Str} {vs vs' : List V} {x : PySem.Str} {v : V} (h : PutF ks vs x v vs') : x ∈ ks := by
  induction h with
  | head => exact List.mem_cons_self ..
  | tail _ ih => exact List.mem_cons_of_mem _ ih
theorem GetF.ent {ks : List PySem.Str} {vs : List V} {x : PySem.Str} {v : V} (h : GetF ks vs x v) : ∃ i, EntAt (ks.zip vs) x v i := by
  induction h with
  | head => exact ⟨0, .head⟩
  | tail _ ih => obtain ⟨i, a⟩ := ih; exact ⟨i + 1, .tail a⟩
theorem PutF.ent {ks : List PySem.Str} {vs vs' : List V} {x : PySem.Str} {v : V} (h : PutF ks vs x v vs') : ∃ i w, EntAt (ks.zip vs) x w i ∧ (ks.zip vs).set i (x, v) = ks.zip vs' := by
  induction h with
  | head => exact ⟨0, _, .head, rfl⟩
  | tail _ ih => obtain ⟨i, w, a, b⟩ := ih; exact ⟨i + 1, w, .tail a, by simp [b]⟩
theorem zip_keys (ks : List PySem.Str) (vs : List V) : (keysOf (ks.zip vs)).Sublist ks := by
  unfold keysOf
  induction ks generalizing vs with
  | nil => simp
  | cons k ks ih => cases vs with
    | nil => simp
    | cons v vs => simpa using ih vs
/-- a class whose instances hold just these plain fields -/
structure OwnF (C : Cx) (cls : Addr) (ks : List PySem.Str) : Prop where
  nd : ks.Nodup
  len : ks.length ≤ 1000
  own : ∀ n ∈ ks, AOwn C cls n
/-- a method of a class -/
structure MethF (C : Cx) (cls : Addr) (ks : List PySem.Str) (name : PySem.Str) (fa : Addr) : Prop where
  m : AMeth C cls name fa
  n : name ∉ ks
noncomputable def okV : V → Bool
  | .stat (.builtin _) => false
  | _ => true
theorem okV.ne {v : V} (h : okV v = true) : ∀ i, v ≠ .stat (.builtin i) := by rintro i rfl; cases h
section
variable {C : Cx} {f : Fx} {X : XT} {ρ ρ' : Loc} {σ : AH} {d : Nat} {ns : List (PySem.Str × NameKind)} {K : List Addr} {O O' : List AO}
theorem O1.ov_attr {x dx cls : Addr} {ks : List PySem.Str} {vs : List V} {name : PySem.Str} {v : V} {e : Bool} {Q : V → AH → Prop} (hn : K.Nodup) (g1 : GetO K O x (.inst cls dx)) (g2 : GetO K O dx (fields ks vs)) (A : OwnF C cls ks)
    (hf : GetF ks vs name v) (hv : okV v = true) (h : Q v (ov K O σ)) : O1 C f X ρ (fun co => getAttr co name e) (.ref x) (ov K O σ) Q :=
  let ⟨_, he⟩ := hf.ent
  O1.attr_own (A.own _ hf.mem) (ov_get hn g1) (ov_get hn g2) (A.nd.sublist (zip_keys ..)) he (okV.ne hv) h
theorem O1.ov_prop {x dx cls fget : Addr} {ks : List PySem.Str} {vs : List V} {name : PySem.Str} {e : Bool} {Q : V → AH → Prop} (ok : f.Ok (d + 1) ns) (hn : K.Nodup) (g1 : GetO K O x (.inst cls dx)) (g2 : GetO K O dx (fields ks vs)) (A : AProp C cls name fget)
    (h : OCc C f.in1 NoX ρ (.stat (.ref fget)) [.ref x] [] (ov K O σ) fun v σ' => (∀ i, v ≠ .stat (.builtin i)) ∧ Q v σ') : O1 C f X ρ (fun co => getAttr co name e) (.ref x) (ov K O σ) Q :=
  O1.prop ok A (ov_get hn g1) (ov_get hn g2) h
theorem OM.ov_inst {x dx cls fa : Addr} {ks : List PySem.Str} {vs : List V} {name : PySem.Str} {Q : V → List V → AH → Prop} (hn : K.Nodup) (g1 : GetO K O x (.inst cls dx)) (g2 : GetO K O dx (fields ks vs)) (A : MethF C cls ks name fa)
    (h : Q (.stat (.ref fa)) [.ref x] (ov K O σ)) : OM C f X ρ name (.ref x) (ov K O σ) Q :=
  OM.inst A.m (ov_get hn g1) (ov_get hn g2) (fun q => A.n ((zip_keys ..).mem q)) h
theorem AS.ov {x dx cls : Addr} {ks : List PySem.Str} {vs vs' : List V} {name : PySem.Str} {v : V} {Q : AH → Prop} (hn : K.Nodup) (g1 : GetO K O x (.inst cls dx)) (g2 : GetO K O dx (fields ks vs)) (A : OwnF C cls ks)
    (hf : PutF ks vs name v vs') (p : PutO K O dx (fields ks vs') O') (h : Q (ov K O' σ)) : AS C f X ρ name (.ref x) v (ov K O σ) Q := by
  obtain ⟨i, w, he, e⟩ := hf.ent
  refine AS.own (A.own _ hf.mem) (ov_get hn g1) (ov_get hn g2) ?_ (A.nd.sublist (zip_keys ..)) he ?_
  · have := A.len; simp; omega
  · rw [e, ov_set hn p]; exact h
theorem OM.ov_deque {a : Addr} {vs : List V} {name : PySem.Str} {id : String} {Q : V → List V → AH → Prop} (hn : K.Nodup) (g : GetO K O a (.deque vs)) (slot : Slot "collections.deque" name id) (hty : typeOf (.builtin id) = pure (.type "method_descriptor"))
    (h : Q (.stat (.builtin id)) [.ref a] (ov K O σ)) : OM C f X ρ name (.ref a) (ov K O σ) Q := OM.deque (ov_get hn g) slot hty h
theorem OM.ov_list {a : Addr} {vs : List V} {name : PySem.Str} {id : String} {Q : V → List V → AH → Prop} (hn : K.Nodup) (g : GetO K O a (.list vs)) (slot : Slot "list" name id) (hty : typeOf (.builtin id) = pure (.type "method_descriptor"))
    (h : Q (.stat (.builtin id)) [.ref a] (ov K O σ)) : OM C f X ρ name (.ref a) (ov K O σ) Q := OM.list (ov_get hn g) slot hty h
theorem OC.ov_appendleft {a : Addr} {v : V} {vs : List V} {Q : V → AH → Prop} (hn : K.Nodup) (g : GetO K O a (.deque vs)) (hsz : vs.length ≤ 1000000) (p : PutO K O a (.deque (v :: vs)) O') (h : Q .none (ov K O' σ)) :
    OC C f X ρ (.stat (.builtin "collections.deque.appendleft")) [.ref a, v] [] (ov K O σ) Q := OC.deque_appendleft (ov_get hn g) hsz (by rw [ov_set hn p]; exact h)
theorem OT.ov_deque {a : Addr} {vs : List V} {Q : Bool → AH → Prop} (hn : K.Nodup) (g : GetO K O a (.deque vs)) (hsz : vs.length ≤ 1000000) (h : Q (!vs.isEmpty) (ov K O σ)) : OT C f X ρ (.ref a) (ov K O σ) Q := OT.deque (ov_get hn g) hsz h
theorem OC.ov_append {a : Addr} {v : V} {vs : List V} {Q : V → AH → Prop} (hn : K.Nodup) (g : GetO K O a (.list vs)) (hsz : vs.length ≤ 16777215) (p : PutO K O a (.list (vs ++ [v])) O') (h : Q .none (ov K O' σ)) :
    OC C f X ρ (.stat (.builtin "list.append")) [.ref a, v] [] (ov K O σ) Q := OC.append (ov_get hn g) hsz (by rw [ov_set hn p]; exact h)
noncomputable abbrev kList (Q : V → AH → Prop) : List V → AH → Prop := fun vs σ₁ => vs.length ≤ 16777216 ∧ ∃ K O τ, σ₁ = ov K O τ ∧ K.Nodup ∧ K.length = O.length ∧ ∀ a, (a :: K).Nodup → Q (.ref a) (ov (a :: K) (.list vs :: O) τ)
theorem Ev.ov_list {es : List Expr} {pos : Pos} {Q : V → AH → Prop} (h : El C f X ρ (spliced (backTo pos (starEach es f.env))) σ (kList Q)) :
    Ev C f X ρ (eval (.List es pos) f.env) σ Q := Ev.list (show El .. from fun F s x => wpAny_mono (h F s x) (fun cvs s' ⟨vs, σ', a, b, c, l, K, O, τ, e1, e2, e3, k⟩ => ⟨vs, σ', a, b, c, l, fun p hp => by subst e1; exact k p (ov_new e2 e3 hp)⟩) fun _ _ e => e)
theorem O2.ov_add_list {l b : Addr} {vs ws : List V} {Q : V → AH → Prop} (hn : K.Nodup) (g : GetO K O l (.list vs)) (g' : GetO K O b (.list ws)) (hz : vs.length + ws.length ≤ 16777216) (hl : K.length = O.length) (h : ∀ a, (a :: K).Nodup → Q (.ref a) (ov (a :: K) (.list (vs ++ ws) :: O) σ)) :
    O2 C f X ρ (binaryOp .Add) (.ref l) (.ref b) (ov K O σ) Q := O2.add_list (ov_get hn g) (ov_get hn g') hz fun a ha => h a (ov_new hn hl ha)
theorem OS.ov_list {value slice : Expr} {l : Addr} {vs : List V} {i : Int} {v : V} {Q : V → AH → Prop} (hn : K.Nodup) (g : GetO K O l (.list vs)) (hlen : vs.length ≤ 16777216) (h0 : -(vs.length : Int) ≤ i) (h1 : i < vs.length) (hv : vs[idx i vs.length]? = some v) (h : Q v (ov K O σ))
    (hs : ∀ o i, subscripted slice false o i = operate [o, i] (getItem o i) := by intros; with_unfolding_all rfl) : OS C f X ρ value slice (.ref l) (.int i) (ov K O σ) Q := OS.list (ov_get hn g) hlen h0 h1 hv h hs
noncomputable abbrev kSl3 (o : V) (lo : Option Int) (Q : V → AH → Prop) : Option Int → AH → Prop := fun hi σ₃ =>
      (∃ l vs K O τ, o = .ref l ∧ σ₃ = ov K O τ ∧ K.Nodup ∧ GetO K O l (.list vs) ∧ vs.length ≤ 16777216 ∧ K.length = O.length ∧ ∀ a, (a :: K).Nodup → Q (.ref a) (ov (a :: K) (.list (pslice vs lo hi) :: O) τ)) ∨
      (∃ l, o = .str l ∧ l.length ≤ 16777216 ∧ Q (.str (pslice l lo hi)) σ₃)
noncomputable abbrev kSl2 (C : Cx) (f : Fx) (X : XT) (ρ : Loc) (upper : Option Expr) (o : V) (Q : V → AH → Prop) : Option Int → AH → Prop := fun lo σ₂ => Ep C f X ρ upper σ₂ (kSl3 o lo Q)
noncomputable abbrev kSl (C : Cx) (f : Fx) (X : XT) (ρ : Loc) (lower upper : Option Expr) (Q : V → AH → Prop) : V → AH → Prop := fun o σ₁ => Ep C f X ρ lower σ₁ (kSl2 C f X ρ upper o Q)
theorem Ev.ov_slice_list {value : Expr} {lower upper : Option Expr} {p pos : Pos} {Q : V → AH → Prop}
    (h : Ev C f X ρ (eval value f.env) σ (kSl C f X ρ lower upper Q)) : Ev C f X ρ (eval (.Subscript value (.Slice lower upper none p) pos) f.env) σ Q :=
  Ev.slice_any (P := fun o lo => kSl3 o lo Q) (fun o lo hi σ₃ h₃ => by
    rcases h₃ with ⟨l, vs, K, O, τ, rfl, rfl, e3, e4, e5, e6, k⟩ | ⟨l, rfl, hz, k⟩
    · exact SlOp.list (ov_get e3 e4) e5 fun a ha => k a (ov_new e3 e6 ha)
    · exact SlOp.str hz k) h
/-- branches -/
theorem ite_t {A B : Prop} (h : A) : if true = true then A else B := by simpa using h
theorem ite_f {A B : Prop} (h : B) : if false = true then A else B := by simpa using h
theorem ite_e {b c : Bool} {A B : Prop} (e : b = c) (h : if c = true then A else B) : if b = true then A else B := e ▸ h
theorem ite_n {b : Bool} {A B : Prop} (h : if b = true then B else A) : if (!b) = true then A else B := by cases b <;> simpa using h
theorem ite_b {b : Bool} {A B : Prop} (h1 : b = true → A) (h0 : b = false → B) : if b = true then A else B := by cases b; exact h0 rfl; exact h1 rfl
end
end Mine

namespace Mine
noncomputable def isB (x : Option (Option Value)) (i : String) : Bool := match x with
  | some (some (.builtin j)) => j == i
  | _ => false
noncomputable def isR (x : Option (Option Value)) (a : Addr) : Bool := match x with
  | some (some (.ref b)) => b == a
  | _ => false
theorem isB.eq {x : Option (Option Value)} {i : String} (h : isB x i = true) : x = some (some (.builtin i)) := by
  unfold isB at h; split at h
  · rw [beq_iff_eq.mp h]
  · cases h
theorem isR.eq {x : Option (Option Value)} {a : Addr} (h : isR x a = true) : x = some (some (.ref a)) := by
  unfold isR at h; split at h
  · rw [beq_iff_eq.mp h]
  · cases h
noncomputable def isNN : Option (Option Value) → Bool
  | some none => true
  | _ => false
theorem isNN.eq {x : Option (Option Value)} (h : isNN x = true) : x = some none := by
  unfold isNN at h; split at h
  · rfl
  · cases h
noncomputable def ownB (K : Frag) (c : Addr) (n : PySem.Str) : Bool :=
  plainGet K c n && hasDictIn K c && (match findIn K (.ref c) n with | some r => noGet K r | none => false) && isB (findIn K (.ref c) "__setattr__") "object.__setattr__" && plainOver K c && (match takerIn K c n with | some none => true | _ => false)
theorem AOwn.of {C : Cx} {c : Addr} {n : PySem.Str} (h : ownB C.K c n = true) : AOwn C c n := by
  unfold ownB at h
  simp only [Bool.and_eq_true] at h
  obtain ⟨⟨⟨⟨⟨h1, h2⟩, h3⟩, h4⟩, h5⟩, h6⟩ := h
  refine ⟨h1, h2, ?_, isB.eq h4, h5, ?_⟩
  · split at h3
    · rename_i r q; exact ⟨r, q, h3⟩
    · cases h3
  · split at h6
    · assumption
    · cases h6
theorem OwnF.of {C : Cx} {c : Addr} {ks : List PySem.Str} (h : (decide ks.Nodup && decide (ks.length ≤ 1000) && ks.all (ownB C.K c)) = true) : OwnF C c ks := by
  simp only [Bool.and_eq_true, decide_eq_true_eq, List.all_eq_true] at h
  exact ⟨h.1.1, h.1.2, fun n hn => AOwn.of (h.2 n hn)⟩
noncomputable def methB (K : Frag) (c : Addr) (ks : List PySem.Str) (n : PySem.Str) (fa : Addr) : Bool :=
  isB (findIn K (.ref c) "__getattribute__") "object.__getattribute__" && isNN (findIn K (.ref c) "__getattr__") && isR (findIn K (.ref c) n) fa && (match typeIn K (.ref fa) with | some (.type t) => t == "function" | _ => false) && !ks.contains n
theorem MethF.of {C : Cx} {c : Addr} {ks : List PySem.Str} {n : PySem.Str} {fa : Addr} (h : methB C.K c ks n fa = true) : MethF C c ks n fa := by
  unfold methB at h
  simp only [Bool.and_eq_true, Bool.not_eq_true'] at h
  obtain ⟨⟨⟨⟨h1, h2⟩, h3⟩, h4⟩, h5⟩ := h
  refine ⟨⟨isB.eq h1, isNN.eq h2, isR.eq h3, ?_⟩, fun q => ?_⟩
  · split at h4
    · rename_i t q; rw [beq_iff_eq.mp h4] at q; exact q
    · cases h4
  · rw [List.contains_iff_mem.mpr q] at h5; cases h5
noncomputable def propB (K : Frag) (c : Addr) (n : PySem.Str) (pa fget : Addr) : Bool :=
  plainGet K c n && (clsIn K c).isSome && isR (findIn K (.ref c) n) pa && isB (specialIn K (.ref pa) "__get__") "property.__get__" && (match takesIn K (.ref pa) with | some true => true | _ => false) &&
    (match recIn K pa "property" with | some (.ref g :: _) => g == fget | _ => false)
theorem AProp.of {C : Cx} {c : Addr} {n : PySem.Str} {pa fget : Addr} (h : propB C.K c n pa fget = true) : AProp C c n fget := by
  unfold propB at h
  simp only [Bool.and_eq_true] at h
  obtain ⟨⟨⟨⟨⟨h1, h2⟩, h3⟩, h4⟩, h5⟩, h6⟩ := h
  split at h6
  · rename_i g r q
    rw [beq_iff_eq.mp h6] at q
    refine ⟨h1, h2, pa, r, isR.eq h3, isB.eq h4, ?_, q⟩
    split at h5
    · assumption
    · cases h5
  · cases h6
noncomputable def globB (K : Frag) (x : PySem.Str) (a : Addr) : Bool := isR (nsIn K mainGlobals x) a
theorem Glob.ofR {C : Cx} {x : PySem.Str} {a : Addr} (h : globB C.K x a = true) : Glob C x (.ref a) := .top (isR.eq h)
section
variable {C : Cx} {f : Fx} {X : XT} {ρ ρ' : Loc} {σ : AH} {d : Nat} {ns : List (PySem.Str × NameKind)} {K : List Addr} {O O' : List AO}
theorem Ex.expr' {e : Expr} {pos : Pos} {Q : Fl → Loc → AH → Prop} (ok : f.Ok d ns) (hs : swapsWith e none pos.line f.env = pure false) (h : Ev C f X ρ (eval e f.env) σ (kNext ρ Q)) : Ex C f X ρ (exec (.Expr e pos) f.env) σ Q := Ex.expr h (by unfold interactive; rw [ok.kind]; rfl) hs
theorem Ev.isAttr {o : Expr} {name : PySem.Str} {pos : Pos} {Q : V → AH → Prop} (h : Ev C f X ρ (eval (.Attribute o name pos) f.env) σ Q) : Ev C f X ρ (eval (.Attribute o name pos) f.env) σ Q := h
theorem Ev.isCmp {o : Expr} {ops : List CmpOp} {rs : List Expr} {pos : Pos} {Q : V → AH → Prop} (h : Ev C f X ρ (eval (.Compare o ops rs pos) f.env) σ Q) : Ev C f X ρ (eval (.Compare o ops rs pos) f.env) σ Q := h
theorem Ev.isCall {o : Expr} {as : List Expr} {ks : List Keyword} {pos : Pos} {Q : V → AH → Prop} (h : Ev C f X ρ (eval (.Call o as ks pos) f.env) σ Q) : Ev C f X ρ (eval (.Call o as ks pos) f.env) σ Q := h
theorem Ev.isMCall {o : Expr} {n : PySem.Str} {p : Pos} {as : List Expr} {ks : List Keyword} {pos : Pos} {Q : V → AH → Prop} (h : Ev C f X ρ (eval (.Call (.Attribute o n p) as ks pos) f.env) σ Q) : Ev C f X ρ (eval (.Call (.Attribute o n p) as ks pos) f.env) σ Q := h
theorem Et.isCmp {o : Expr} {ops : List CmpOp} {rs : List Expr} {pos : Pos} {wh : Sem Value} {Q : Bool → AH → Prop} (h : Et C f X ρ (isTrue (.Compare o ops rs pos) f.env wh) σ Q) : Et C f X ρ (isTrue (.Compare o ops rs pos) f.env wh) σ Q := h
theorem Ex.isAssign {ts : List Expr} {v : Expr} {pos : Pos} {Q : Fl → Loc → AH → Prop} (h : Ex C f X ρ (exec (.Assign ts v pos) f.env) σ Q) : Ex C f X ρ (exec (.Assign ts v pos) f.env) σ Q := h
theorem OC.cat1 {g a : V} {vs : List V} {kw : List (PySem.Str × V)} {Q : V → AH → Prop} (h : OC C f X ρ g (a :: vs) kw σ Q) : OC C f X ρ g ([a] ++ vs) kw σ Q := h
theorem O2.is_none_str {l : List Nat} {Q : V → AH → Prop} (h : Q (.bool false) σ) : O2 C f X ρ (compareOp .Is) (.str l) .none σ Q := O2.is_none rfl h
theorem O2.is_none_int {i : Int} {Q : V → AH → Prop} (h : Q (.bool false) σ) : O2 C f X ρ (compareOp .Is) (.int i) .none σ Q := O2.is_none rfl h
theorem O2.is_none_none {Q : V → AH → Prop} (h : Q (.bool true) σ) : O2 C f X ρ (compareOp .Is) .none .none σ Q := O2.is_none rfl h
theorem O2.isnot_none_str {l : List Nat} {Q : V → AH → Prop} (h : Q (.bool true) σ) : O2 C f X ρ (compareOp .IsNot) (.str l) .none σ Q := O2.isnot_none rfl h
theorem O2.isnot_none_ref {l : Addr} {Q : V → AH → Prop} (h : Q (.bool true) σ) : O2 C f X ρ (compareOp .IsNot) (.ref l) .none σ Q := O2.isnot_none rfl h
theorem O2.isnot_none_none {Q : V → AH → Prop} (h : Q (.bool false) σ) : O2 C f X ρ (compareOp .IsNot) .none .none σ Q := O2.isnot_none rfl h
theorem Ep.i {i : Int} {P : Int → Prop} (h : P i) : ∃ j, V.int i = V.int j ∧ P j := ⟨i, rfl, h⟩
theorem sl_str {A : Prop} {s : List Nat} {P : List Nat → Prop} (hz : s.length ≤ 16777216) (h : P s) : A ∨ ∃ l, V.str s = .str l ∧ l.length ≤ 16777216 ∧ P l := .inr ⟨s, rfl, hz, h⟩
/-- a list laid out -/
theorem dl_list {vs : List V} {P : Addr → List Addr → List AO → AH → Prop} (hz : vs.length ≤ 16777216) (hn : K.Nodup) (hl : K.length = O.length) (h : ∀ a, (a :: K).Nodup → P a K O σ) :
    vs.length ≤ 16777216 ∧ ∃ K₁ O₁ τ, ov K O σ = ov K₁ O₁ τ ∧ K₁.Nodup ∧ K₁.length = O₁.length ∧ ∀ a, (a :: K₁).Nodup → P a K₁ O₁ τ := ⟨hz, K, O, σ, rfl, hn, hl, h⟩
theorem dl_tup {vs : List V} {P : Prop} (hz : vs.length ≤ 16777216) (h : P) : vs.length ≤ 16777216 ∧ P := ⟨hz, h⟩
theorem OC.lift {ks : List Addr} {os os' : List AO} {r g : V} {args : List V} {kw : List (PySem.Str × V)} {Q : V → AH → Prop} (hn : K.Nodup)
    (small : ∀ (σ : AH) (Q : V → AH → Prop), Q r (ov ks os' σ) → OC C f X ρ g args kw (ov ks os σ) Q)
    (hg : PutAll K O ks os O) (hp : PutAll K O ks os' O') (h : Q r (ov K O' σ)) : OC C f X ρ g args kw (ov K O σ) Q := by
  have := small (ov K O σ) Q (by rw [ov_ov hn hp]; exact h)
  rwa [ov_ov hn hg] at this
end
end Mine

namespace Mine
/-- a further field, the next of the list of keys -/
inductive AppF : List PySem.Str → List V → PySem.Str → V → List V → Prop
  | head {x v ks} : AppF (x :: ks) [] x v [v]
  | tail {y w ks vs x v vs'} : AppF ks vs x v vs' → AppF (y :: ks) (w :: vs) x v (w :: vs')
theorem AppF.mem {ks : List PySem.Str} {vs vs' : List V} {x : PySem.Str} {v : V} (h : AppF ks vs x v vs') : x ∈ ks := by
  induction h with
  | head => exact List.mem_cons_self ..
  | tail _ ih => exact List.mem_cons_of_mem _ ih
theorem AppF.ent {ks : List PySem.Str} {vs vs' : List V} {x : PySem.Str} {v : V} (h : AppF ks vs x v vs') : ks.zip vs ++ [(x, v)] = ks.zip vs' := by
  induction h with
  | head => simp
  | tail _ ih => simp [ih]
theorem AppF.new {ks : List PySem.Str} {vs vs' : List V} {x : PySem.Str} {v : V} (hn : ks.Nodup) (h : AppF ks vs x v vs') : x ∉ keysOf (ks.zip vs) := by
  induction h with
  | head => simp [keysOf]
  | tail h ih =>
    rw [List.nodup_cons] at hn
    have := ih hn.2
    simp only [List.zip_cons_cons, keysOf, List.map_cons, List.mem_cons, not_or]
    exact ⟨fun e => hn.1 (e ▸ h.mem), this⟩
section
variable {C : Cx} {f : Fx} {X : XT} {ρ ρ' : Loc} {σ : AH} {d : Nat} {ns : List (PySem.Str × NameKind)} {K : List Addr} {O O' : List AO}
theorem AS.ov_app {x dx cls : Addr} {ks : List PySem.Str} {vs vs' : List V} {name : PySem.Str} {v : V} {Q : AH → Prop} (hn : K.Nodup) (g1 : GetO K O x (.inst cls dx)) (g2 : GetO K O dx (fields ks vs)) (A : OwnF C cls ks)
    (hf : AppF ks vs name v vs') (p : PutO K O dx (fields ks vs') O') (h : Q (Mine.ov K O' σ)) : AS C f X ρ name (.ref x) v (Mine.ov K O σ) Q := by
  refine AS.new (A.own _ hf.mem) (ov_get hn g1) (ov_get hn g2) ?_ (AppF.new A.nd hf) ?_
  · have := A.len; simp; omega
  · rw [hf.ent, ov_set hn p]; exact h
end
end Mine

namespace Mine
theorem mro_deque : mroOf (.type "collections.deque") = pure [.type "collections.deque", .type "object"] := by rw [mroOf_type]; kernel_rfl
theorem lookup_deque_new : typeLookup (.type "collections.deque") "__new__" = pure (some (.builtin "collections.deque.__new__")) := by rw [typeLookup_type, builtinLookup_eq_fast]; kernel_rfl
theorem sub_deque : isSubtype (.type "collections.deque") (.type "collections.deque") = pure true := by rw [isSubtype_type]; kernel_rfl
theorem slot_deque_init : Slot "collections.deque" "__init__" "collections.deque.__init__" :=
  .of (owner := "collections.deque") (n := "__init__") (by rw [typeLookup_type, builtinLookup_eq_fast]; kernel_rfl) (by decide +kernel) (by decide +kernel) (by decide +kernel)
    (by first | exact .inl (by decide +kernel) | exact .inr (by decide +kernel)) (by rw [isSubtype_type]; kernel_rfl)
theorem called_deque : TypeCalled "collections.deque" "collections.deque.__new__" "collections.deque.__init__" :=
  ⟨by decide +kernel, by decide +kernel, ⟨_, _, mro_deque⟩, madeBy_type mro_deque lookup_deque_new (by decide +kernel), by decide +kernel, sub_deque, slot_deque_init⟩
theorem typeCall_deque : checkTypeCall "collections.deque" ⟨[], []⟩ = pure () := by kernel_rfl
theorem newCall_deque : checkBuiltinCall "collections.deque.__new__" ⟨[.type "collections.deque"], []⟩ = pure () := by kernel_rfl
theorem entry_deque_new : entryFor table "collections.deque.__new__" = some Builtin.«collections.deque.__new__» := entryFor_of_tree (by kernel_rfl)
theorem entry_deque_init : entryFor table "collections.deque.__init__" = some Builtin.«collections.deque.__init__» := entryFor_of_tree (by kernel_rfl)
theorem args_deque_init (a : Value) : argsOk "collections.deque.__init__" ⟨[a], []⟩ := by
  unfold argsOk; kernel_rfl
end Mine

namespace Mine
theorem deque_new_meets : Meets (Builtin.«collections.deque.__new__» ⟨[.type "collections.deque"], []⟩) (fun _ R s => R (.ok (.ret (.ref s.heap.objs.size))) { s with heap := s.heap.push (dqObj 0 []) }) := Meets.of_wp fun prog w A R s h => by
  unfold Builtin.«collections.deque.__new__»
  have h1 : isSubtype (.type "collections.deque") (.type Builtin.Deque.ty) = pure true := sub_deque
  have h2 : isType (.type "collections.deque") = pure true := by kernel_rfl
  have h3 : typeHasDict (.type "collections.deque") = false := by kernel_rfl
  have e1 : Builtin.Deque.newArgs Builtin.Deque.ty ⟨[.type "collections.deque"], []⟩ = pure (.type "collections.deque", []) := by
    unfold Builtin.Deque.newArgs
    simp only [h2, h1]
    rfl
  rw [e1]
  refine wpAny_bind (wpAny_pure ?_)
  unfold Builtin.Deque.new
  simp only [h3]
  refine wpAny_bind (wpAny_bind ?_)
  refine wpAny_pure ?_
  refine wpAny_newObj_type ?_
  exact wpAny_pure ⟨_, rfl, h⟩
theorem deque_init_meets (a : Addr) (k : Int) : Meets (Builtin.«collections.deque.__init__» ⟨[.ref a], []⟩) (fun _ R s => s.heap.get? a = some (dqObj k []) ∧ ∀ h', h'.get? a = some (dqObj k []) → Heap.SameBut a s.heap h' → R (.ok (.ret .none)) { s with heap := h' }) := Meets.of_wp fun prog w A R s h => by
  obtain ⟨h0, h⟩ := h
  unfold Builtin.«collections.deque.__init__»
  show wpAny _ _ (setField (.ref a) 0 .none >>= fun _ => Builtin.Deque.clear (.ref a) >>= fun _ => pure (Fin.done (.ret .none))) _ _ _
  refine wpAny_bind (wpAny_setField_rec h0 (by simp) fun h' g1 g2 => ?_)
  have g1 : h'.get? a = some (dqObj k []) := g1
  refine wpAny_bind ?_
  unfold Builtin.Deque.clear
  refine wpAny_bind (dq_items (s := { s with heap := h' }) g1 ?_)
  exact wpAny_pure (wpAny_pure ⟨_, rfl, h h' g1 g2⟩)
section
variable {C : Cx} {f : Fx} {X : XT} {ρ ρ' : Loc} {σ : AH} {d : Nat} {ns : List (PySem.Str × NameKind)} {K : List Addr} {O O' : List AO}
theorem OC.deque {Q : V → AH → Prop} (hn : K.Nodup) (hl : K.length = O.length) (h : ∀ a, (a :: K).Nodup → Q (.ref a) (ov (a :: K) (.deque [] :: O) σ)) : OC C f X ρ (.stat (.type "collections.deque")) [] [] (ov K O σ) Q := fun F s cg cargs ckw y rg ra rk rkv => by
  cases rg.statI
  cases ra
  obtain rfl := kw_nil rk
  have fr := (y.fresh).1
  refine callType_meets (Q₁ := fun obj s₁ => obj = .ref s.heap.objs.size ∧ s₁ = { s with heap := s.heap.push (dqObj 0 []) }) called_deque typeCall_deque newCall_deque entry_deque_new entry_deque_init deque_new_meets ⟨rfl, rfl⟩ ?_
  rintro obj s₁ ⟨rfl, rfl⟩
  have hx : (s.heap.push (dqObj 0 [])).get? s.heap.objs.size = some (dqObj 0 []) := by heap_get
  refine ⟨⟨_, hx, rfl⟩, args_deque_init _, _, deque_init_meets _ 0, hx, fun h' g1 g2 => ⟨rfl, ?_⟩⟩
  obtain ⟨z, tp⟩ := y.new (o := .deque []) (h' := h') (fun b o e => g2.extBut b o (Nat.ne_of_lt (Heap.lt_size e)) (Heap.get?_push_of_some _ e)) ⟨[], 0, g1, .nil⟩ s.toks
  exact ⟨.ref s.heap.objs.size, _, z, .ref, tp, h _ (ov_new hn hl fr)⟩
end
end Mine

namespace Mine
/-- a look that lays two objects -/
theorem wp_peekA {α : Type} {K : Frag} {M : Model} {A : Around} {E : Value → Shared → Prop} {Q : α → Shared → Prop} {s : Shared} {o : Obj} (X : K.In s.heap) :
    ∀ (t : Sem α) (g : Addr → Sem α), peekA K ⟨M.prog, M.w.params⟩ t = some (o, g) → wpAny M A (g s.heap.objs.size) Q E { s with heap := s.heap.push o } → wpAny M A t Q E s := by
  intro t
  induction t with
  | rule _ k ih => intro g e q Γ p hΓ; exact ih () g e q Γ p hΓ
  | point _ k ih => intro g e q Γ p hΓ; exact ih () g e q Γ p hΓ
  | ask k ih => intro g e q Γ p hΓ; exact ih _ g e q Γ p hΓ
  | load a _ k ih =>
    intro g e q Γ p hΓ
    simp only [peekA] at e
    split at e
    · rename_i ob ho; exact ⟨ob, X _ _ ho, ih ob g e q Γ p hΓ⟩
    · cases e
  | alloc ob k _ =>
    intro g e q
    have e : some (ob, k) = some (o, g) := e
    obtain ⟨e1, e2⟩ := Prod.mk.inj (Option.some.inj e)
    subst e1
    subst e2
    show wpAny M A (alloc ob >>= k) Q E s
    exact wpAny_bind (wpAny_alloc q)
  | _ => intro g e; cases e
noncomputable def peek2 {α : Type} (K : Frag) (S : Setting) (a b : Addr) (t : Sem α) : Option (Obj × Obj × α) :=
  match peekA K S t with
  | some (o, g) => match peekA K S (g a) with
    | some (o2, g2) => (peek K S (g2 b)).map fun r => (o, o2, r)
    | none => none
  | none => none
theorem wp_peek2 {α : Type} {K : Frag} {M : Model} {A : Around} {E : Value → Shared → Prop} {Q : α → Shared → Prop} {s : Shared} {o o2 : Obj} {t : Sem α} {r : α} (X : K.In s.heap)
    (e : peek2 K ⟨M.prog, M.w.params⟩ s.heap.objs.size (s.heap.objs.size + 1) t = some (o, o2, r)) (q : Q r { s with heap := (s.heap.push o).push o2 }) : wpAny M A t Q E s := by
  unfold peek2 at e
  split at e
  · rename_i o' g e1
    split at e
    · rename_i o2' g2 e2
      obtain ⟨r', e3, e4⟩ := Option.map_eq_some_iff.mp e
      cases e4
      refine wp_peekA X _ _ e1 ?_
      have X1 : K.In (s.heap.push o) := fun a b c => Heap.get?_push_of_some _ (X a b c)
      have X2 : K.In ((s.heap.push o).push o2) := fun a b c => Heap.get?_push_of_some _ (X1 a b c)
      refine wp_peekA (s := { s with heap := s.heap.push o }) X1 _ _ e2 ?_
      have sz : (s.heap.push o).objs.size = s.heap.objs.size + 1 := by rw [Heap.size_push]
      show wpAny M A (g2 (s.heap.push o).objs.size) Q E _
      rw [sz]
      exact (Looks.of_peek X2 e3).here q
    · cases e
  · cases e
section
variable {C : Cx} {f : Fx} {X : XT} {ρ ρ' : Loc} {σ : AH} {d : Nat} {ns : List (PySem.Str × NameKind)} {K : List Addr} {O O' : List AO}

/-- the binding of (cls, *args, **kwargs) for one argument -/
theorem BindsE.star1 {c : Value} {a : V} {fd : FuncData} (h : ∀ S x y ca, peek2 C.K S x y (bindArgs fd ⟨[c, ca], []⟩) = some (⟨.type "tuple", none, .seq #[ca] 0, #[]⟩, emptyDict, ((fd.scope.names.map (·.1)).take 3).zip [c, .ref x, .ref y])) :
    BindsE C fd [.stat c, a] [] (fun bs => ∃ y, bs = [.stat c, .tup [a], .ref y]) 3 := fun A E Q s cargs ckw KI ra rk rkv q => by
  obtain ⟨_, ca, rfl, r1, r2⟩ := ra.two
  cases r1.statI
  obtain rfl := kw_nil rk
  refine wp_peek2 KI (h _ _ _ _) ?_
  have hx : ((s.heap.push ⟨.type "tuple", none, .seq #[ca] 0, #[]⟩).push emptyDict).get? s.heap.objs.size = some ⟨.type "tuple", none, .seq #[ca] 0, #[]⟩ := by heap_get
  have k : ∀ b o, s.heap.get? b = some o → ((s.heap.push ⟨.type "tuple", none, .seq #[ca] 0, #[]⟩).push emptyDict).get? b = some o := fun b o e => Heap.get?_push_of_some _ (Heap.get?_push_of_some _ e)
  exact q [.stat c, .tup [a], .ref (s.heap.objs.size + 1)] _ _ ⟨_, rfl⟩ rfl k (.cons .stat (.cons (.tup ⟨_, hx, rfl, 0, rfl⟩ (.cons (r2.mono (Tup.ext k)) .nil)) (.cons .ref .nil)))
theorem O2.isnot_stat {a b : Value} {r : Bool} {Q : V → AH → Prop} (e : ∀ S, peek C.K S (compareOp .IsNot a b) = some (.bool r)) (h : Q (.bool r) σ) : O2 C f X ρ (compareOp .IsNot) (.stat a) (.stat b) σ Q := fun F s ca cb x ra rb => by
  cases ra.statI; cases rb.statI
  exact (Looks.of_peek (Cx.inK x) (e _)).here ⟨_, σ, x, .bool, Tup.refl _, h⟩
end
end Mine

namespace Mine
/-- what is to be looked at in a class with a def __new__ -/
noncomputable def makesNB (K : Frag) (C pN fN fI : Addr) : Bool := (match K.lookup C with
  | some ⟨_, _, .cls cd, _⟩ => !cd.mro.isEmpty && cd.mro.contains (.ref C)
  | _ => false) &&
  specialIn K (.ref C) "__call__" == some (some (.builtin "type.__call__")) && instIn K (.ref C) (.type "type") == some true &&
  typeIn K (.ref C) == some (.type "type") && readsIn K C (.type "type") &&
  (match findCls K (.ref C) (.type "type") "__new__" with | some (.get (.builtin g) (.ref p) .none (.ref c)) => g == "staticmethod.__get__" && p == pN && c == C | _ => false) &&
  (match recIn K pN "staticmethod" with | some (.ref g :: _) => g == fN | _ => false) && handedIn (.ref fN) &&
  isR (findIn K (.ref C) "__init__") fI && typeIn K (.ref fI) == some (.type "function")
section
variable {C : Cx} {f : Fx} {X : XT} {ρ ρ' : Loc} {σ : AH} {d : Nat} {ns : List (PySem.Str × NameKind)} {K : List Addr} {O O' : List AO}
theorem OCc.makeN {Cc pN fN fI : Addr} {args : List V} {Q : V → AH → Prop} (ok : f.Ok (d + 1) ns) (hm : makesNB C.K Cc pN fN fI = true) (made : ∀ S, peek C.K S (Bind.madeBy (.ref Cc)) = some none)
    (h : ∀ (f' : Fx), f'.Ok d ns → (f.A.handled = none → f'.A.handled = none) → OCc C f' NoX ρ (.stat (.ref fN)) (.stat (.ref Cc) :: args) [] σ fun v σ₁ => ∃ x dx, v = .ref x ∧ σ₁ x = some (.inst Cc dx) ∧
      OCc C f' NoX ρ (.stat (.ref fI)) (.ref x :: args) [] σ₁ fun v σ' => v = .none ∧ Q (.ref x) σ') :
    OCc C f X ρ (.stat (.ref Cc)) args [] σ Q := fun F s cg cargs ckw y rg ra rk rkv => by
  cases rg.statI
  obtain rfl := kw_nil rk
  have KI := Cx.inK y
  unfold makesNB at hm
  simp only [Bool.and_eq_true, beq_iff_eq] at hm
  obtain ⟨⟨⟨⟨⟨⟨⟨⟨⟨m1, m2⟩, m3⟩, m4⟩, m5⟩, m6⟩, m7⟩, m8⟩, m9⟩, m10⟩ := hm
  split at m1
  case h_2 => cases m1
  rename_i oc od cd sl hC
  simp only [Bool.and_eq_true, Bool.not_eq_true'] at m1
  obtain ⟨m1, m1'⟩ := m1
  split at m6
  case h_2 => cases m6
  rename_i g p c hget
  simp only [Bool.and_eq_true, beq_iff_eq] at m6
  obtain ⟨⟨rfl, rfl⟩, rfl⟩ := m6
  split at m7
  case h_2 => cases m7
  rename_i g r hrec
  rw [beq_iff_eq] at m7
  subst m7
  have hi := isR.eq m9
  have hc : clsIn C.K c = some cd := by unfold clsIn; rw [hC]
  have selfK : mroIn C.K c (.ref c) = some true := by unfold mroIn; rw [hc, Option.bind_some, if_neg (by rw [m1]; decide), m1']
  have call : Looks C.M s.heap (specialOf (.ref c) "__call__") (some (.builtin "type.__call__")) := looks_specialIn KI m2
  have typ : Looks C.M s.heap (isInstance (.ref c) (.type "type")) true := looks_instIn KI m3
  have made' : Looks C.M s.heap (Bind.madeBy (.ref c)) none := Looks.of_peek KI (made _)
  have hm : Looks C.M s.heap (mroOf (.ref c)) cd.mro := (looks_clsIn KI hc).andThen .now
  obtain ⟨hh, gg, dr, t, os⟩ := s
  refine codeAny_of_tree ?_
  show wpAny _ _ (callAny (.ref c) _) _ _ _
  refine nd_load (KI _ _ hC) ?_
  show wpAny _ _ (callAny.viaDunder (.ref c) _) _ _ _
  unfold callAny.viaDunder
  refine wpAny_bind (call.at ?_)
  dsimp only
  rw [tc_bind]
  refine wpAny_bind (wpAny_pure (wpAny_bind (wpAny_pure ?_)))
  refine wpAny_pure (a := Fin.again (.call (.builtin "type.__call__") ⟨.ref c :: cargs, []⟩)) (And.intro rfl ?_)
  refine codeAny_call_builtin_at (Code.quiet_builtin _ (by decide +kernel)) entry_typeCall (check_slot tc_kind tc_split typ (tc_args _ _ _) ?_)
  unfold Builtin.«type.__call__»
  let f' : Fx := ⟨f.A.under (.builtin "type.__call__" ⟨.ref c :: cargs, []⟩), f.env, f.outer, f.stack⟩
  have ok' : f'.Ok d ns := ⟨ok.names, ok.kind, ok.globals, ok.builtins, ok.frame, ok.nd, ok.dbg, by have := ok.depth; show f.A.depth + 1 + d < _; omega, by have := ok.units; show f.A.units + 1 + 4 * d + 16 < _; omega, ok.frames⟩
  have m1n : ¬ (cd.mro.isEmpty = true) := by rw [m1]; decide
  repeat (first | with_reducible refine wp_if_neg m1n ?_ | with_reducible refine wpAny_bind (wp_if_neg m1n ?_) | with_reducible refine wpAny_bind (cls_bind (s := ⟨hh, gg, dr, t, os⟩) KI m5 hget (wpAny_call (sm_get (s := ⟨hh, gg, dr, t + 1, os⟩) KI hrec ?_))) | with_reducible refine wpAny_call ?_ | lk)
  have yt := y.toks (t + 1)
  have H := h f' ok' (fun e => e) F ⟨hh, gg, dr, t + 1, os⟩ (.ref g) (.ref c :: cargs) [] ⟨yt.dis, yt.sat⟩ .stat (.cons .stat ra) rfl .nil
  refine codeAny_mono H fun r s₁ hr => ?_
  cases r with
  | error e => exact hr.elim
  | ok v => cases v with
    | ret v =>
      obtain ⟨w, σ₁, x₁, rv, t₁, x, dx, rfl, hx, hI⟩ := hr
      cases rv.refI
      have y₁ : St C f ρ F σ₁ s₁ := ⟨x₁.dis, x₁.sat⟩
      have KI₁ := Cx.inK y₁
      have hob : s₁.heap.get? x = some (instObj c dx) := y₁.obj hx
      have t1 : Looks C.M s₁.heap (typeOf (.ref x)) (.ref c) := (Looks.ld hob).andThen .now
      have s1 : Looks C.M s₁.heap (isSubtype (.ref c) (.ref c)) true := looks_mroIn KI₁ selfK
      have i1 := looks_findIn (M := C.M) KI₁ hi
      have b1 := bind_fn (M := C.M) KI₁ (.ref x) m10
      obtain ⟨hh₁, gg₁, dr₁, tk₁, os₁⟩ := s₁
      unfold isInstance callSpecial? specialOf
      repeat (first | with_reducible refine wpAny_call ?_ | lk)
      have H₁ := hI F ⟨hh₁, gg₁, dr₁, tk₁, os₁⟩ (.ref fI) (.ref x :: cargs) [] x₁ .stat (.cons .ref (ra.mono t₁)) rfl .nil
      refine codeAny_mono H₁ fun r s' hr => ?_
      cases r with
      | error e => exact hr.elim
      | ok v => cases v with
        | ret v =>
          obtain ⟨w, σ', x', rv, tt, rfl, q⟩ := hr
          cases rv.noneI
          exact wpAny_pure (wpAny_pure ⟨.ref x, σ', ⟨x'.dis, x'.sat⟩, .ref, t₁.trans tt, q⟩)
        | _ => exact hr.elim
    | _ => exact hr.elim
end
end Mine

namespace Mine
noncomputable def newB (K : Frag) (C : Addr) : Bool := (match K.lookup C with
  | some ⟨_, _, .cls cd, _⟩ => !cd.abstract && !cd.hasDel
  | _ => false) && instIn K (.ref C) (.type "type") == some true
section
variable {C : Cx} {f : Fx} {X : XT} {ρ ρ' : Loc} {σ : AH} {d : Nat} {ns : List (PySem.Str × NameKind)} {K : List Addr} {O O' : List AO}
theorem OC.obj_new {Cc : Addr} {Q : V → AH → Prop} (hb : newB C.K Cc = true) (chk : ∀ S, peek C.K S (checkBuiltinCall "object.__new__" ⟨[.ref Cc], []⟩) = some ()) (here : ∀ S, peek C.K S (Bind.madeHere "object.__new__" (.ref Cc)) = some ())
    (h : ∀ x dx, σ dx = none → (σ.set dx (.dict [])) x = none → Q (.ref x) ((σ.set dx (.dict [])).set x (.inst Cc dx))) :
    OC C f X ρ (.stat (.builtin "object.__new__")) [.stat (.ref Cc)] [] σ Q := fun F s cg cargs ckw y rg ra rk rkv => by
  cases rg.statI
  obtain rfl := kw_nil rk
  obtain ⟨_, rfl, r1⟩ := ra.one
  cases r1.statI
  have KI := Cx.inK y
  unfold newB at hb
  simp only [Bool.and_eq_true, beq_iff_eq] at hb
  obtain ⟨m1, m2⟩ := hb
  split at m1
  case h_2 => cases m1
  rename_i oc od cd sl hC
  simp only [Bool.and_eq_true, Bool.not_eq_true'] at m1
  obtain ⟨e1, e2⟩ := m1
  have typ : Looks C.M s.heap (isInstance (.ref Cc) (.type "type")) true := looks_instIn KI m2
  have here' : Looks C.M s.heap (Bind.madeHere "object.__new__" (.ref Cc)) () := Looks.of_peek KI (here _)
  have Fo := PySem.F.objNew
  have hC := KI _ _ hC
  have f1 := (y.fresh).1
  obtain ⟨hh, g, dr, t, os⟩ := s
  obtain ⟨y1, t1⟩ := y.new (o := .dict []) (h' := hh.push emptyDict) (fun b o e => Heap.get?_push_of_some _ e) ⟨[], _, by heap_get, .nil⟩ t
  have sz : (hh.push emptyDict).objs.size = hh.objs.size + 1 := by rw [Heap.size_push]
  have f2 := (y1.fresh).1
  obtain ⟨y2, t2⟩ := y1.new (o := .inst Cc hh.objs.size) (h' := (hh.push emptyDict).push (instObj Cc hh.objs.size)) (fun b o e => Heap.get?_push_of_some _ e) (by
    show ((hh.push emptyDict).push (instObj Cc hh.objs.size)).get? (hh.push emptyDict).objs.size = _
    heap_get) t
  have y2' : St C f ρ F ((σ.set hh.objs.size (.dict [])).set (hh.objs.size + 1) (.inst Cc hh.objs.size)) ⟨(hh.push emptyDict).push (instObj Cc hh.objs.size), g, dr, t, os⟩ := by
    have z := y2
    simp only [sz] at z
    exact z
  have hq := h (hh.objs.size + 1) hh.objs.size f1 (by rw [← sz]; exact f2)
  refine wpAny_call (codeAny_call_builtin_at (Code.quiet_builtin _ Fo.quiet) Fo.entry ((Looks.of_peek KI (chk _)).here ?_))
  unfold Builtin.«object.__new__»
  have fin : ∀ (A' : Around) (R : Fin → Shared → Prop) (E : Value → Shared → Prop), (∀ v, v = .ref (hh.objs.size + 1) → R (.done (.ret v)) ⟨(hh.push emptyDict).push (instObj Cc hh.objs.size), g, dr, t, os⟩) → wpAny C.M A' (do
      let d ← if typeHasDict (.ref Cc) then some <$> alloc { cls := .type "dict", data := .dict #[] } else pure none
      ret (← newObj (.ref Cc) .plain d)) R E ⟨hh, g, dr, t, os⟩ := by
    intro A' R E hR
    show wpAny _ _ ((alloc emptyDict >>= fun x => pure (some x)) >>= _) _ _ _
    refine wpAny_bind (wpAny_bind (wpAny_alloc (wpAny_pure (wpAny_bind ?_))))
    show wpAny _ _ (newObjAsIs _ _ _) _ _ _
    unfold newObjAsIs classHasDel
    refine wpAny_bind (wpAny_alloc (wpAny_bind (wpAny_bind (wpAny_load (Heap.get?_push_of_some _ (Heap.get?_push_of_some _ hC)) (wpAny_pure ?_)))))
    rw [e2]
    refine wpAny_pure (wpAny_pure ?_)
    exact hR _ (by rw [Heap.size_push])
  have e1n : ¬ (cd.abstract = true) := by rw [e1]; decide
  repeat (first | with_reducible refine wp_if_neg e1n ?_ | with_reducible refine wpAny_bind (wp_if_neg e1n ?_) | with_reducible refine fin _ _ _ ?_ | lk)
  rintro v rfl
  exact ⟨.ref (hh.objs.size + 1), _, y2', .ref, t1.trans t2, hq⟩
/-- an attribute of a built-in type, as it is -/
theorem OM.type_val {T : String} {name : PySem.Str} {v : Value} {Q : V → List V → AH → Prop} (ht : typeOf (.type T) = pure (.type "type")) (hs : Manifest.isStub T = false)
    (e : findCls C.K (.type T) (.type "type") name = some (.val v)) (hh : handedIn v = true) (h : Q (.stat v) [] σ) : OM C f X ρ name (.stat (.type T)) σ Q := fun pl F s co y r => by
  cases r.statI
  have X := Cx.inK y
  have hstub : opaqueClassAbove (.type T) = pure none := by unfold opaqueClassAbove; dsimp only; rw [hs]; rfl
  have L0 : Looks C.M s.heap (typeOf (.type T)) (.type "type") := Looks.of_pure ht
  have hg : findIn C.K (.type "type") "__getattribute__" = some (some (.builtin "type.__getattribute__")) := type_tga
  unfold getMethod specialOf
  refine wpAny_bind (wpAny_bind (L0.here ((looks_findIn X hg).here ?_)))
  dsimp only
  rw [if_pos canon_tga]
  refine wpAny_bind ?_
  have LO : Looks C.M s.heap (opaqueClassAbove (.type T)) none := Looks.of_pure hstub
  refine cls_open X LO L0 hg (looks_hook X (r := none) (by rfl)) (by show subIn C.K _ _ = _; rfl) e
    (wpAny_pure (by show wpAny _ _ (handedOut v) _ _ _; rw [handedOut_of hh]; exact wpAny_pure (wpAny_pure ⟨_, _, σ, y.toks (s.toks + 1), .stat, .nil, Tup.refl _, h⟩)))
theorem ov_swap {a b : Addr} {p q : AO} (h : a ≠ b) : ov (a :: b :: K) (p :: q :: O) σ = ov (b :: a :: K) (q :: p :: O) σ := by
  show AH.set (AH.set _ _ _) _ _ = AH.set (AH.set _ _ _) _ _
  rw [AH.set_comm _ _ _ (Ne.symm h)]
theorem OC.ov_obj_new {Cc : Addr} {ks : List PySem.Str} {Q : V → AH → Prop} (hn : K.Nodup) (hl : K.length = O.length) (hb : newB C.K Cc = true) (chk : ∀ S, peek C.K S (checkBuiltinCall "object.__new__" ⟨[.ref Cc], []⟩) = some ()) (here : ∀ S, peek C.K S (Bind.madeHere "object.__new__" (.ref Cc)) = some ())
    (h : ∀ x dx, (dx :: x :: K).Nodup → Q (.ref x) (ov (dx :: x :: K) (fields ks [] :: .inst Cc dx :: O) σ)) :
    OC C f X ρ (.stat (.builtin "object.__new__")) [.stat (.ref Cc)] [] (ov K O σ) Q := OC.obj_new hb chk here fun x dx h1 h2 => by
  have n1 := ov_new hn hl h1
  have n2 : (x :: dx :: K).Nodup := ov_new (K := dx :: K) (O := .dict [] :: O) (σ := σ) n1 (by simpa using hl) h2
  have n3 : (dx :: x :: K).Nodup := by simp at n2 ⊢; exact ⟨⟨fun e => n2.1.1 e.symm, n2.2.1⟩, n2.1.2, n2.2.2⟩
  have := h x dx n3
  unfold fields at this
  rw [List.zip_nil_right, ov_swap (Ne.symm fun e => by simp [e] at n2)] at this
  exact this
theorem OCc.ov_makeN {Cc pN fN fI : Addr} {ks : List PySem.Str} {args : List V} {Q : V → AH → Prop} (ok : f.Ok (d + 1) ns) (hm : makesNB C.K Cc pN fN fI = true) (made : ∀ S, peek C.K S (Bind.madeBy (.ref Cc)) = some none)
    (h : ∀ (f' : Fx), f'.Ok d ns → (f.A.handled = none → f'.A.handled = none) → OCc C f' NoX ρ (.stat (.ref fN)) (.stat (.ref Cc) :: args) [] (ov K O σ) fun v σ₁ => ∃ x dx, v = .ref x ∧ (dx :: x :: K).Nodup ∧ σ₁ = ov (dx :: x :: K) (fields ks [] :: .inst Cc dx :: O) σ)
    (h2 : ∀ (f' : Fx) x dx, f'.Ok d ns → (f.A.handled = none → f'.A.handled = none) → (dx :: x :: K).Nodup → OCc C f' NoX ρ (.stat (.ref fI)) (.ref x :: args) [] (ov (dx :: x :: K) (fields ks [] :: .inst Cc dx :: O) σ) fun v σ' => v = .none ∧ Q (.ref x) σ') :
    OCc C f X ρ (.stat (.ref Cc)) args [] (ov K O σ) Q := OCc.makeN ok hm made fun f' ok' hh F s cg cargs ckw y a b c e => codeAny_mono (h f' ok' hh F s cg cargs ckw y a b c e) fun r s' hr => by
  cases r with
  | error e => exact hr.elim
  | ok v => cases v with
    | ret v =>
      obtain ⟨w, σ', x', rv, tt, x, dx, rfl, n, rfl⟩ := hr
      exact ⟨.ref x, _, x', rv, tt, x, dx, rfl, ov_get n (.tail .head), h2 f' x dx ok' hh n⟩
    | _ => exact hr.elim
end
end Mine

namespace Mine
section
variable {C : Cx} {f : Fx} {X : XT} {ρ ρ' : Loc} {σ : AH} {d : Nat} {ns : List (PySem.Str × NameKind)} {K : List Addr} {O O' : List AO}
theorem OCc.makeK {Cc fI : Addr} {args : List V} {kw : List (PySem.Str × V)} {Q : V → AH → Prop} (ok : f.Ok (d + 1) ns) (hm : makesIn C.K Cc = true) (hi : findIn C.K (.ref Cc) "__init__" = some (some (.ref fI))) (hf : typeIn C.K (.ref fI) = some (.type "function"))
    (h : ∀ (f' : Fx) x dx, f'.Ok d ns → (f.A.handled = none → f'.A.handled = none) → σ dx = none → (σ.set dx (.dict [])) x = none → OCc C f' NoX ρ (.stat (.ref fI)) (.ref x :: args) kw ((σ.set dx (.dict [])).set x (.inst Cc dx)) fun v σ' => v = .none ∧ Q (.ref x) σ') :
    OCc C f X ρ (.stat (.ref Cc)) args kw σ Q := fun F s cg cargs ckw y rg ra rk rkv => by
  cases rg.statI
  have KI := Cx.inK y
  obtain ⟨hh, g, dr, t, os⟩ := s
  obtain ⟨y1, t1⟩ := y.new (o := .dict []) (h' := hh.push emptyDict) (fun b o e => Heap.get?_push_of_some _ e) ⟨[], _, by heap_get, .nil⟩ t
  have sz : (hh.push emptyDict).objs.size = hh.objs.size + 1 := by rw [Heap.size_push]
  obtain ⟨y2, t2⟩ := y1.new (o := .inst Cc hh.objs.size) (h' := (hh.push emptyDict).push (instObj Cc hh.objs.size)) (fun b o e => Heap.get?_push_of_some _ e) (by
    show ((hh.push emptyDict).push (instObj Cc hh.objs.size)).get? (hh.push emptyDict).objs.size = _
    heap_get) t
  have y2' : St C f ρ F ((σ.set hh.objs.size (.dict [])).set (hh.objs.size + 1) (.inst Cc hh.objs.size)) ⟨(hh.push emptyDict).push (instObj Cc hh.objs.size), g, dr, t, os⟩ := by
    have z := y2
    simp only [sz] at z
    exact z
  refine make_core (makes_of KI hm) (looks_findIn KI hi) (fun self => bind_fn KI self hf) (.inl rfl) ?_
  let f' : Fx := ⟨f.A.under (.builtin "type.__call__" ⟨.ref Cc :: cargs, ckw⟩), f.env, f.outer, f.stack⟩
  have ok' : f'.Ok d ns := ⟨ok.names, ok.kind, ok.globals, ok.builtins, ok.frame, ok.nd, ok.dbg, by have := ok.depth; show f.A.depth + 1 + d < _; omega, by have := ok.units; show f.A.units + 1 + 4 * d + 16 < _; omega, ok.frames⟩
  have f1 := (y.fresh).1
  have f2 := (y1.fresh).1
  have := h f' (hh.objs.size + 1) hh.objs.size ok' (fun e => e) f1 (by rw [← sz]; exact f2) F ⟨(hh.push emptyDict).push (instObj Cc hh.objs.size), g, dr, t, os⟩ (.ref fI) (.ref (hh.objs.size + 1) :: cargs) ckw ⟨y2'.dis, y2'.sat⟩ .stat (.cons .ref (ra.mono (t1.trans t2))) rk (rkv.mono (t1.trans t2))
  refine codeAny_mono this fun r s' hr => ?_
  cases r with
  | error e => exact hr.elim
  | ok v => cases v with
    | ret v =>
      obtain ⟨w, σ', x', rv, tt, rfl, q⟩ := hr
      cases rv.noneI
      exact ⟨rfl, .ref (hh.objs.size + 1), σ', ⟨x'.dis, x'.sat⟩, .ref, (t1.trans t2).trans tt, q⟩
    | _ => exact hr.elim
theorem OCc.ov_makeK {Cc fI : Addr} {ks : List PySem.Str} {args : List V} {kw : List (PySem.Str × V)} {Q : V → AH → Prop} (ok : f.Ok (d + 1) ns) (hm : makesIn C.K Cc = true) (hi : findIn C.K (.ref Cc) "__init__" = some (some (.ref fI))) (hf : typeIn C.K (.ref fI) = some (.type "function")) (hn : K.Nodup) (hl : K.length = O.length)
    (h : ∀ (f' : Fx) x dx, f'.Ok d ns → (f.A.handled = none → f'.A.handled = none) → (dx :: x :: K).Nodup → OCc C f' NoX ρ (.stat (.ref fI)) (.ref x :: args) kw (ov (dx :: x :: K) (fields ks [] :: .inst Cc dx :: O) σ) fun v σ' => v = .none ∧ Q (.ref x) σ') :
    OCc C f X ρ (.stat (.ref Cc)) args kw (ov K O σ) Q := OCc.makeK ok hm hi hf fun f' x dx ok' hh h1 h2 => by
  have n1 := ov_new hn hl h1
  have n2 : (x :: dx :: K).Nodup := ov_new (K := dx :: K) (O := .dict [] :: O) (σ := σ) n1 (by simpa using hl) h2
  have n3 : (dx :: x :: K).Nodup := by simp at n2 ⊢; exact ⟨⟨fun e => n2.1.1 e.symm, n2.2.1⟩, n2.1.2, n2.2.2⟩
  have := h f' x dx ok' hh n3
  unfold fields at this
  rw [List.zip_nil_right, ov_swap (Ne.symm fun e => by simp [e] at n2)] at this
  exact this
end
end Mine

namespace Mine
/-- a list of ints that lies there from the start -/
noncomputable def StatL (C : Cx) (L : Addr) (is : List Int) : Prop := ∃ cvs, C.base.IsList L (List.toArray cvs) ∧ IntsAre cvs is
theorem IntsAre.vrs {h : Heap} {cvs : List Value} {is : List Int} (x : IntsAre cvs is) : VRs h (is.map V.int) cvs := by
  induction x with
  | nil => exact .nil
  | cons n t _ ih => exact .cons .int ih
section
variable {C : Cx} {f : Fx} {X : XT} {ρ ρ' : Loc} {σ : AH} {d : Nat} {ns : List (PySem.Str × NameKind)} {K : List Addr} {O O' : List AO}
noncomputable abbrev kSt3 (L : Addr) (is : List Int) (o : V) (lo : Option Int) (Q : V → AH → Prop) : Option Int → AH → Prop := fun hi σ₃ =>
      o = .stat (.ref L) ∧ is.length ≤ 16777216 ∧ ∃ K O τ, σ₃ = ov K O τ ∧ K.Nodup ∧ K.length = O.length ∧ ∀ a, (a :: K).Nodup → Q (.ref a) (ov (a :: K) (.list ((pslice is lo hi).map V.int) :: O) τ)
noncomputable abbrev kSt2 (C : Cx) (f : Fx) (X : XT) (ρ : Loc) (L : Addr) (is : List Int) (upper : Option Expr) (o : V) (Q : V → AH → Prop) : Option Int → AH → Prop := fun lo σ₂ => Ep C f X ρ upper σ₂ (kSt3 L is o lo Q)
noncomputable abbrev kSt (C : Cx) (f : Fx) (X : XT) (ρ : Loc) (L : Addr) (is : List Int) (lower upper : Option Expr) (Q : V → AH → Prop) : V → AH → Prop := fun o σ₁ => Ep C f X ρ lower σ₁ (kSt2 C f X ρ L is upper o Q)
theorem Ev.slice_stat {value : Expr} {lower upper : Option Expr} {p pos : Pos} {L : Addr} {is : List Int} {Q : V → AH → Prop} (hL : StatL C L is)
    (h : Ev C f X ρ (eval value f.env) σ (kSt C f X ρ L is lower upper Q)) :
    Ev C f X ρ (eval (.Subscript value (.Slice lower upper none p) pos) f.env) σ Q :=
  Ev.slice_any (P := fun o lo => kSt3 L is o lo Q) (fun o lo hi σ₃ h₃ => by
    obtain ⟨rfl, hz, K, O, τ, rfl, hn, hl, hq⟩ := h₃
    obtain ⟨cvs, ⟨ob, hob, hcls, n, hdat⟩, hI⟩ := hL
    intro value slice F s co sl cl cu h₀ hsub x r hs e₂ e₃ tt
    cases r.statI
    have hps : (pslice is lo hi).map V.int = pslice (is.map V.int) lo hi := by unfold pslice; rw [List.map_take, List.map_drop, List.length_map]
    exact slice_list (vs := is.map V.int) hsub x (x.sat.keep _ _ hob) hcls hdat (IntsAre.vrs hI) (by rw [List.length_map]; exact hz) hs (part_of e₂) (part_of e₃) tt fun a ha => by rw [← hps]; exact hq a (ov_new hn hl ha)) h
end
end Mine

namespace Mine
section
variable {C : Cx} {f : Fx} {X : XT} {ρ ρ' : Loc} {σ : AH} {d : Nat} {ns : List (PySem.Str × NameKind)} {K : List Addr} {O O' : List AO}
theorem ov_set_out {j : Addr} {p : AO} : ∀ {K : List Addr} {O : List AO}, j ∉ K → (ov K O σ).set j p = ov K O (σ.set j p)
  | [], _, _ => rfl
  | _ :: _, [], _ => rfl
  | k :: K, o :: O, h => by
    simp only [List.mem_cons, not_or] at h
    show (AH.set (ov K O σ) k o).set j p = AH.set (ov K O (σ.set j p)) k o
    rw [AH.set_comm _ _ _ (Ne.symm h.1), ov_set_out h.2]
/-- what is wanted no more goes below -/
theorem ov_sink {j : Addr} {p : AO} (hn : (j :: K).Nodup) : ov (j :: K) (p :: O) σ = ov K O (σ.set j p) := ov_set_out (List.nodup_cons.mp hn).1
theorem clip_ge {n : Nat} {i : Int} {k : Nat} (e : i = k) : clipAt n i = min k n := by
  subst e
  unfold clipAt
  rw [if_neg (Int.not_lt.mpr (Int.natCast_nonneg k)), Int.max_eq_right (Int.le_min.mpr ⟨Int.natCast_nonneg k, Int.natCast_nonneg n⟩)]
  rcases Nat.le_total k n with h | h
  · rw [Nat.min_eq_left h, Int.min_eq_left (Int.ofNat_le.mpr h)]; rfl
  · rw [Nat.min_eq_right h, Int.min_eq_right (Int.ofNat_le.mpr h)]; rfl
noncomputable def noH : AH := fun _ => none
theorem OS.ov_strs {value slice : Expr} {l : Addr} {WT : List (List Nat)} {w : Nat} {Q : V → AH → Prop} (hn : K.Nodup) (g : GetO K O l (.list (WT.map V.str))) (hw : w < WT.length) (hz : WT.length ≤ 16777216) (hs : ∀ o i, subscripted slice false o i = operate [o, i] (getItem o i))
    (h : Q (.str (WT.getD w [])) (ov K O σ)) : OS C f X ρ value slice (.ref l) (.int (w : Nat)) (ov K O σ) Q :=
  OS.ov_list hn g (by simpa using hz) (by rw [List.length_map]; omega) (by rw [List.length_map]; omega) (by
    have : idx ((w : Nat) : Int) (WT.map V.str).length = w := by unfold idx; rw [if_neg (by omega)]; omega
    rw [this, List.getElem?_map, List.getElem?_eq_getElem hw]
    simp [List.getD_eq_getElem?_getD, List.getElem?_eq_getElem hw]) h hs
theorem OS.ov_last {value slice : Expr} {l : Addr} {vs : List V} {v : V} {Q : V → AH → Prop} (hn : K.Nodup) (g : GetO K O l (.list (vs ++ [v]))) (hz : vs.length ≤ 16777215)
    (hs : ∀ o i, subscripted slice false o i = operate [o, i] (getItem o i)) (h : Q v (ov K O σ)) : OS C f X ρ value slice (.ref l) (.int (-1)) (ov K O σ) Q :=
  OS.ov_list hn g (by simp; omega) (by simp; omega) (by simp; omega) (by
    have : idx (-1) (vs ++ [v]).length = vs.length := by unfold idx; simp; omega
    rw [this]; simp) h hs
end
end Mine

namespace Mine
end Mine

namespace Mine
noncomputable def cxOf (prog : Program) (w : World) {K : Frag} {s : Shared} {mg mb : PySem.Str → Option Value} (X : K.In s.heap) (g : s.heap.Ns mainGlobals mg) (b : s.heap.Ns builtinsNs mb) (bs : ∀ x : PySem.Str, x ≠ "__name__" → mb x = bootBuiltins x) (nl : s.heap.NoLimit) : Cx :=
  ⟨prog, w, K, s.heap, s.os, mg, mb, X, g, b, bs, nl⟩
theorem ok_start {env : Env} {d : Nat} {ns : List (PySem.Str × NameKind)} (h1 : env.scope.names = ns) (h2 : env.scope.kind = .function) (h3 : env.globals = mainGlobals) (h4 : env.builtins = builtinsNs) (h5 : env.frame = some env.locals) (nd : (ns.map (·.1)).Nodup) (dbg : (ns.map (·.1)).all (fun x => !(x == ("__debug__" : PySem.Str))) = true)
    (hd : callerA.depth + 1 + d < recursionLimit) (hu : callerA.units + 3 + 4 * d + 16 < cLine) : Fx.Ok d ns ⟨callerA.deeper env, env, [], [env]⟩ :=
  ⟨h1, h2, h3, h4, .inl ⟨rfl, h5⟩, by show (env.scope.names.map (·.1)).Nodup; rw [h1]; exact nd, by show (env.scope.names.map (·.1)).all _ = true; rw [h1]; exact dbg, hd, hu, rfl⟩
theorem statL_of {C : Cx} {h : Heap} {L : Addr} {cvs : List Value} {is : List Int} (HL : h.IsList L (List.toArray cvs)) (HI : IntsAre cvs is) (hb : C.base = h) : StatL C L is := ⟨cvs, by rw [hb]; exact HL, HI⟩
theorem len_of {n : Nat} (h : ¬ (63 : Int) < (n : Int)) : n ≤ 1000000 := by omega
/-- the law's body, from the state that the head leaves -/
theorem run_law {C : Cx} {env : Env} {A : Around} {body : List Stmt} {h₁ : Heap} {m : PySem.Str → Option Value} {s₁ : Shared} {tk : Nat} {La : Addr} {ns : List (PySem.Str × NameKind)} {Post : Flow → Shared → Prop} {E : Value → Shared → Prop}
    (hb : C.base = s₁.heap) (ho : C.os = s₁.os) (hg : s₁.gens = #[]) (fr : Fr s₁.heap s₁.heap.objs.size h₁ m) (hL : env.locals = s₁.heap.objs.size) (hn : env.scope.names = ((PySem.Str.ofString "script"), NameKind.local) :: ns) (hm : m "script" = some (.ref La))
    (H : ∀ f : Fx, f = ⟨A, env, [], [env]⟩ → Ex C f NoX (some (.stat (.ref La)) :: List.replicate ns.length none) (execs body f.env) noH fun fl _ _ => fl = .ret (.bool true))
    (hpost : ∀ s' : Shared, (∀ b o, s₁.heap.get? b = some o → s'.heap.get? b = some o) → s'.os = s₁.os → s'.gens = #[] → Post (.ret (.bool true)) s') :
    wpAny C.M A (execs body env) Post E { s₁ with heap := h₁, toks := tk } := by
  let f : Fx := ⟨A, env, [], [env]⟩
  have hNone : C.base.get? s₁.heap.objs.size = none := by rw [hb]; exact Heap.get?_none_of_le (Nat.le_refl _)
  have st : St C f (some (.stat (.ref La)) :: List.replicate ns.length none) noH noH { s₁ with heap := h₁, toks := tk } := by
    refine ⟨⟨rfl, rfl, fun _ _ e => (nomatch e), fun _ he => (nomatch he)⟩, ⟨fun b o e => fr.keep b o (by rw [← hb]; exact e), fun a o e => ?_, hg, ho.symm⟩⟩
    unfold tot at e
    split at e
    · rename_i q
      cases e
      subst q
      refine ⟨⟨m, ?_, ?_⟩, ?_⟩
      · show Heap.Ns h₁ env.locals m
        rw [hL]; exact fr.ns
      · intro i x v hi hv
        cases i with
        | zero =>
          have hx : x = "script" := by
            have : f.N[0]? = some ("script" : PySem.Str) := by show (env.scope.names.map (·.1))[0]? = _; rw [hn]; rfl
            rw [this] at hi; cases hi; rfl
          subst hx
          cases hv
          exact ⟨_, hm, .stat⟩
        | succ i =>
          rw [List.getElem?_cons_succ, List.getElem?_replicate] at hv
          split at hv <;> cases hv
      · show C.base.get? env.locals = none
        rw [hL]; exact hNone
    · cases e
  refine wpAny_mono (H f rfl noH _ st) (fun fl s' ⟨a, ρ', σ', x', r', t', e⟩ => ?_) fun _ _ e => e.elim
  subst e
  cases fl with
  | ret cv =>
    cases VR.boolI r'
    exact hpost s' (fun b o e => x'.sat.keep b o (by rw [hb]; exact e)) (x'.sat.os.trans ho) x'.sat.gens
  | _ => exact r'.elim
section
variable {C : Cx} {f : Fx} {X : XT} {ρ : Loc} {σ : AH} {es : List Expr} {Q : Bool → AH → Prop} {b : Bool}
/-- a test of two, taken as one value -/
theorem and_last (h : Q b σ) : if b then Et C f X ρ (allTrue .And [] f.env) σ Q else Q false σ := by
  cases b
  · exact h
  · exact Et.and_nil h
theorem or_last (h : Q b σ) : if b then Q true σ else Et C f X ρ (allTrue .Or [] f.env) σ Q := by
  cases b
  · exact Et.or_nil h
  · exact h
theorem and_merge (c : Bool) (hp : ∀ Q' : Bool → AH → Prop, Q' c σ → Et C f X ρ (allTrue .And es f.env) σ Q') (h : Q (b && c) σ) : if b then Et C f X ρ (allTrue .And es f.env) σ Q else Q false σ := by
  cases b
  · exact h
  · exact hp Q h
theorem or_merge (c : Bool) (hp : ∀ Q' : Bool → AH → Prop, Q' c σ → Et C f X ρ (allTrue .Or es f.env) σ Q') (h : Q (b || c) σ) : if b then Q true σ else Et C f X ρ (allTrue .Or es f.env) σ Q := by
  cases b
  · exact hp Q h
  · exact h
end
end Mine

namespace Mine
section
variable {C : Cx} {f : Fx} {X : XT} {ρ ρ' : Loc} {σ : AH} {d : Nat} {ns : List (PySem.Str × NameKind)} {K : List Addr} {O O' : List AO}
/-- a name that lies in a cell -/
theorem Ev.cell {x : PySem.Str} {pos : Pos} {i : Nat} {c : Addr} {v : V} {Q : V → AH → Prop} (ok : f.Ok d ns) (hi : NameAt ns x .cell i) (hc : f.env.cells.lookup x = some c) (hv : σ c = some (.cell (some v))) (h : Q v σ)
    (hd : (x == ("__debug__" : PySem.Str)) = false := by decide) : Ev C f X ρ (eval (.Name x pos) f.env) σ Q := fun F s y => by
  obtain ⟨o, cv, g, hdt, hr⟩ := y.obj hv
  obtain ⟨cu, e, r⟩ := hr v rfl
  rw [e] at hdt
  exact wpAny_Name (wpAny_loadName_cell ok.kind ((ok.at hi).lookup ok.nd) hc ⟨o, g, hdt⟩ ⟨v, σ, y, r, Tup.refl _, h⟩) hd
theorem Ev.ov_cell {x : PySem.Str} {pos : Pos} {i : Nat} {c : Addr} {v : V} {Q : V → AH → Prop} (ok : f.Ok d ns) (hi : NameAt ns x .cell i) (hc : f.env.cells.lookup x = some c) (hn : K.Nodup) (hv : GetO K O c (.cell (some v))) (h : Q v (ov K O σ))
    (hd : (x == ("__debug__" : PySem.Str)) = false := by decide) : Ev C f X ρ (eval (.Name x pos) f.env) (ov K O σ) Q := Ev.cell ok hi hc (ov_get hn hv) h hd
theorem set2 {τ : AH} {a b : Addr} {x x' y : AO} (h : a ≠ b) : ((τ.set a x).set b y).set a x' = (τ.set a x').set b y := by
  funext c
  unfold AH.set
  by_cases h1 : c = a
  · subst h1; rw [if_pos rfl, if_neg h, if_pos rfl]
  · rw [if_neg h1, if_neg h1, if_neg h1]
/-- an object that is known of nobody turns -/
theorem St.other {F : AH} {s : Shared} {c : Addr} {h' : Heap} (x : St C f ρ F σ s) (h1 : c ≠ f.L) (h2 : σ c = none) (h3 : F c = none) (hb : C.base.get? c = none) (hs : Heap.SameBut c s.heap h') (tp : Tup s.heap h') : St C f ρ F σ { s with heap := h' } := by
  refine ⟨x.dis, ⟨fun b o e => (hs.2 b fun q => by rw [q, hb] at e; cases e).trans (x.sat.keep b o e), fun a o e => ?_, x.sat.gens, x.sat.os⟩⟩
  have hne : a ≠ c := by
    rintro rfl
    unfold tot at e
    rw [if_neg h1, h2, h3] at e
    cases e
  exact ⟨(x.sat.obj a o e).1.mono tp (hs.2 a hne), (x.sat.obj a o e).2⟩
inductive CpI (C : Cx) (g : Fx) (F : AH) (it L : Addr) (fr : AO) (P : Nat → Obj → Prop) (m : Nat) (h : Heap) (I : Nat → List V → Loc → AH → Prop) (n : Nat) (s' : Shared) : Prop
  | mk (k : Nat) (outs : List V) (ρ' : Loc) (σ' : AH) (e : n + k = m) (a : St C g ρ' ((F.set it (.any (P k))).set L fr) σ' s') (c : Tup h s'.heap) (l : outs.length = k) (d : I k outs ρ' σ') : CpI C g F it L fr P m h I n s'
noncomputable abbrev kElt (C : Cx) (g : Fx) (elt : Expr) (I : Nat → List V → Loc → AH → Prop) (acc : Addr) (k : Nat) (outs : List V) : Loc → AH → Prop := fun ρ₂ σ₂ => Ev C g NoX ρ₂ (eval elt g.env) σ₂ fun w σ₃ => σ₃ acc = some (.list outs) ∧ I (k + 1) (outs ++ [w]) ρ₂ (σ₃.set acc (.list (outs ++ [w])))
/-- what a list comprehension needs of what it walks -/
inductive CpG (C : Cx) (f : Fx) (target elt : Expr) (cns : List (PySem.Str × NameKind)) (cl : List (PySem.Str × Addr)) (d : Nat) (Q : V → AH → Prop) (ρ : Loc) (v : V) (σ : AH) : Prop
  | mk (src : AH → Prop) (items : List V) (it : Iters C f ρ v σ src items) (hz : items.length ≤ 1000000)
      (more : ∀ acc, σ acc = none → ∃ I : Nat → List V → Loc → AH → Prop, I 0 [] (List.replicate cns.length none) (σ.set acc (.list [])) ∧ (∀ k o ρ' σ', I k o ρ' σ' → src σ') ∧
        (∀ g : Fx, g.Ok d cns → g.env.cells = cl → (f.A.handled = none → g.A.handled = none) → ∀ k v outs ρ' σ', items[k]? = some v → I k outs ρ' σ' → AsV C g NoX ρ' (PySem.assign target g.env) v σ' (kElt C g elt I acc k outs)) ∧
        (∀ outs ρ' σ', I items.length outs ρ' σ' → Q (.ref acc) σ')) : CpG C f target elt cns cl d Q ρ v σ
theorem Ev.listcomp {elt target iter : Expr} {scope : Scope} {pos : Pos} {cl : List (PySem.Str × Addr)} {cns : List (PySem.Str × NameKind)} {Q : V → AH → Prop} (ok : f.Ok d ns) (hcn : (relabel scope f.env).names = cns) (hkind : scope.kind = .function)
    (hnd : (cns.map (·.1)).Nodup) (hdbg : (cns.map (·.1)).all (fun x => !(x == ("__debug__" : PySem.Str))) = true) (hcell : ∀ y ∈ scope.names, y.2 ≠ .cell) (hnames : ∀ y ∈ scope.names, y.2 = .local → scope.names.lookup y.1 = some .local) (hclos : closureFor scope f.env = pure cl)
    (h : Ev C f X ρ (eval iter f.env) σ (CpG C f target elt cns cl d Q ρ))
    (hfold : ∀ x, foldedSetIterable iter f.env x = pure x := by intro _; with_unfolding_all rfl)
    (hown : ∀ (g : Fx) (v : Value) (it : Addr), letOwnedTupleGo target (.ref it) v = pure () := by intros; with_unfolding_all rfl) :
    Ev C f X ρ (eval (.ListComp elt [⟨target, iter, [], 0⟩] scope pos) f.env) σ Q := fun F s x => by
  rw [eval_ListComp]
  refine wpAny_comprehension_free (use := none) rfl hfold hclos hkind hnames (h.on x fun cv v s₁ σ₁ x₁ r₁ t₁ h₁ => ?_)
  obtain ⟨src, items, hit, hz, more⟩ := h₁
  refine hit F s₁ cv _ _ x₁ r₁ fun o P tk hP hof hI => ?_
  have hk0 : ∀ b ob, s₁.heap.get? b = some ob → (s₁.heap.push o).get? b = some ob := fun b ob e => Heap.get?_push_of_some _ e
  have fresh0 := (x₁.fresh).2.1
  have x₂ := x₁.newF (o := .any (P 0)) hk0 ⟨o, Heap.get?_push_size _ hof, hP, plainIt_tup (hI.own _ _ hP)⟩ tk
  have t₂ : Tup s₁.heap (s₁.heap.push o) := Tup.ext hk0
  generalize hs₂ : ({ s₁ with heap := s₁.heap.push o, toks := tk } : Shared) = s₂ at x₂ ⊢
  have hh₂ : s₂.heap = s₁.heap.push o := by rw [← hs₂]
  rw [← hh₂] at t₂
  clear hs₂ hh₂ hk0
  generalize s₁.heap.objs.size = it at fresh0 hI x₂ ⊢
  refine wpAny_newList ?_
  have hk1 : ∀ b ob, s₂.heap.get? b = some ob → (s₂.heap.push { cls := .type "list", data := .seq ([] : List Value).toArray }).get? b = some ob := fun b ob e => Heap.get?_push_of_some _ e
  have n3 := x₂.new (o := .list []) hk1 ⟨[], 0, Heap.get?_push_size _ rfl, .nil⟩ s₂.toks
  obtain ⟨I, h0, hst, turn, fin⟩ := more s₂.heap.objs.size (x₂.fresh).1
  have x₃ := n3.1
  have t₃ := n3.2
  generalize s₂.heap.objs.size = acc at h0 turn fin x₃ ⊢
  generalize hs₃ : ({ s₂ with heap := s₂.heap.push { cls := .type "list", data := .seq ([] : List Value).toArray } } : Shared) = s₃ at x₃ ⊢
  have tt₃ : Tup s.heap s₃.heap := by rw [← hs₃]; exact t₁.trans (t₂.trans t₃)
  have t₁₃ : Tup s₁.heap s₃.heap := by rw [← hs₃]; exact t₂.trans t₃
  clear hs₃ t₃ t₂ hk1 n3 x₂ s₂
  refine wpAny_newFunctionEnv hcell (by intro y hy; cases hy) (fun h₁ hns hsb => ?_) hkind
  have fr₃ := x₃.fresh
  have bl₃ := x₃.sat.base_lt
  have hkC : ∀ b ob, s₃.heap.get? b = some ob → h₁.get? b = some ob := fun b ob e => hsb.extBut b ob (Nat.ne_of_lt (Heap.lt_size e)) (Heap.get?_push_of_some _ e)
  have x₄' := x₃.enter (h₁ := h₁) (L := s₃.heap.objs.size) (env := compEnvC scope cl s₃.heap.objs.size f.env) (A' := f.A) (N := cns.map (·.1)) (bs := List.replicate cns.length none) (by rw [ok.kind]; decide) ok.frame rfl rfl (by rw [← hcn]; rfl) hkC
    ⟨_, hns, fun i y v _ e => by rw [List.getElem?_replicate] at e; split at e <;> cases e⟩ (s₃.toks + ([] : List (PySem.Str × Value)).length)
  let g : Fx := ⟨f.A, compEnvC scope cl s₃.heap.objs.size f.env, f.stack, f.stack⟩
  have okg : g.Ok d cns := ⟨hcn, hkind, ok.globals, ok.builtins, .inr rfl, by show ((relabel scope f.env).names.map (·.1)).Nodup; rw [hcn]; exact hnd, by show ((relabel scope f.env).names.map (·.1)).all _ = true; rw [hcn]; exact hdbg, ok.depth, ok.units, ok.frames⟩
  have x₄ : St C g (List.replicate cns.length none) ((F.set it (.any (P 0))).set f.L (.frame f.N ρ)) _ _ := ⟨x₄'.dis, x₄'.sat⟩
  have itL : it ≠ f.L := fun q => by
    have := x₃.dis.l2
    rw [← q, AH.set_self] at this
    cases this
  have loop : ∀ s₅, s₅ = ({ s₃ with heap := h₁, toks := s₃.toks + ([] : List (PySem.Str × Value)).length } : Shared) → codeAny C.M f.A (.compLoop (.ListComp elt [⟨target, iter, [], 0⟩] scope pos) 0 (.ref it) (.ref acc) g.env) (compPost C.M f.A (X F) none (EvP C f ρ F s.heap Q) (.ref acc) s₃.heap.objs.size) s₅ := by
    rintro s₅ rfl
    refine codeAny_compLoop_list (CpI C g F it f.L (.frame f.N ρ) P items.length s₃.heap I) (fun n s' ⟨k, outs, ρ', σ', hn, x', t', hl, hI'⟩ => ?_) items.length ⟨0, [], _, _, rfl, x₄, Tup.ext hkC, rfl, h0⟩ (fun v => hown g v it)
    have hFit : ((F.set it (.any (P k))).set f.L (.frame f.N ρ)) it = some (.any (P k)) := by rw [AH.set_ne _ _ itL]; exact AH.set_self ..
    cases hv : items[k]? with
    | some v =>
      refine hI.next g k v _ _ _ s' _ _ x' hFit (hst _ _ _ _ hI') (t₁₃.trans t') hv fun cv' h' tk' rv hob hsb' => ?_
      have x₅ := (x'.updF hFit hsb' hob tk').1
      have t₅ := (x'.updF hFit hsb' hob tk').2
      rw [set2 itL] at x₅
      obtain ⟨m, rfl⟩ := left_pos hn (List.getElem?_eq_some_iff.mp hv).1
      refine wpAny_mono (turn g okg rfl (fun q => q) k v outs ρ' σ' hv hI' _ _ cv' x₅ rv) (fun _ s₆ ⟨ρ₆, σ₆, x₆, t₆, h₆⟩ => ?_) (fun _ _ q => q.elim)
      refine wpAny_mono (h₆ _ s₆ x₆) (fun cw s₇ ⟨w, σ₇, x₇, r₇, t₇, h₇, h₈⟩ => ?_) (fun _ _ q => q.elim)
      have hkl : k < items.length := (List.getElem?_eq_some_iff.mp hv).1
      refine wpAny_mono (OC.append (f := g) (X := NoX) (Q := fun v σ' => σ' = σ₇.set acc (.list (outs ++ [w]))) h₇ (by rw [hl]; exact Nat.le_trans (Nat.le_of_lt hkl) (Nat.le_trans hz (by decide))) rfl _ s₇ _ [.ref acc, cw] [] x₇ .stat (.cons .ref (.cons r₇ .nil)) rfl .nil) (fun _ s₈ ⟨_, σ₈, x₈, _, t₈, e₈⟩ => ?_) (fun _ _ q => q.elim)
      subst e₈
      exact ⟨m, Nat.lt_succ_self _, k + 1, outs ++ [w], ρ₆, _, left_next hn, x₈, (((t'.trans t₅).trans t₆).trans t₇).trans t₈, by rw [List.length_append, hl]; rfl, h₈⟩
    | none =>
      obtain rfl := left_none hn (List.getElem?_eq_none_iff.mp hv)
      refine hI.done g _ _ _ s' _ _ x' hFit (hst _ _ _ _ hI') (t₁₃.trans t') fun h' tk' hext => ?_
      have hFC : F s₃.heap.objs.size = none := (AH.set_ne _ _ fun q => by rw [q, AH.set_self] at fr₃; cases fr₃.2.1).symm.trans fr₃.2.1
      have dr := x'.dropF (F₀ := F.set f.L (.frame f.N ρ)) (AH.set_comm _ _ _ itL) ((AH.set_ne _ _ itL).trans fresh0) hext tk'
      obtain ⟨m, hm, _⟩ := dr.1.locals
      refine ⟨m, hm, fun h'' hs'' => ?_⟩
      have nb : C.base.get? s₃.heap.objs.size = none := bl₃
      have tC : Tup h' h'' := (dr.1.sat.obj _ _ tot_L).1.tup hs''
      have y := St.leave' (st := f.stack) x₁.dis.l2 x₁.dis.fr hFC fr₃.2.2 ⟨dr.1.dis, dr.1.sat⟩
      have z := y.other fr₃.2.2 dr.1.dis.l1 hFC nb hs'' tC
      exact ⟨.ref acc, σ', z, .ref, ((tt₃.trans t').trans dr.2).trans tC, fin outs ρ' σ' hI'⟩
  exact codeAny_compStart_list (loop _ rfl) (hI.self g 0 _ _ _ _ _ _ x₄ (by rw [AH.set_ne _ _ itL]; exact AH.set_self ..) (loop _ rfl))
theorem St.above {F : AH} {s : Shared} {c : Addr} (x : St C f ρ F σ s) (hc : s.heap.objs.size ≤ c) : σ c = none ∧ F c = none ∧ c ≠ f.L ∧ C.base.get? c = none := by
  have no : ∀ o, s.heap.get? c ≠ some o := fun o e => absurd (Heap.lt_size e) (Nat.not_lt.mpr hc)
  have h0 : tot f.L f.N ρ F σ c = none := by
    cases e : tot f.L f.N ρ F σ c with
    | none => rfl
    | some o =>
      obtain ⟨ob, g, _⟩ := (x.sat.obj c o e).1.get
      exact absurd g (no ob)
  have hb : C.base.get? c = none := by
    cases e : C.base.get? c with
    | none => rfl
    | some o => exact absurd (x.sat.keep c o e) (no o)
  unfold tot at h0
  split at h0
  · cases h0
  · rename_i q
    cases e : σ c with
    | none => rw [e] at h0; exact ⟨rfl, h0, q, hb⟩
    | some o => rw [e] at h0; cases h0
theorem St.add {F : AH} {s : Shared} {c : Addr} {o : AO} (x : St C f ρ F σ s) (h2 : F c = none) (h3 : c ≠ f.L) (hb : C.base.get? c = none) (ho : ObjAt s.heap c o) : St C f ρ F (σ.set c o) s := by
  refine ⟨x.dis.set h3 h2, ?_⟩
  rw [tot_set h3]
  refine ⟨x.sat.keep, fun a p e => ?_, x.sat.gens, x.sat.os⟩
  unfold AH.set at e
  split at e
  · rename_i q; subst q; cases e; exact ⟨ho, hb⟩
  · exact x.sat.obj a p e
/-- a def whose one parameter lies in a cell -/
theorem OCc.fnC {fa : Addr} {oc : Value} {od : Option Addr} {osl : Array (Option Value)} {fd : FuncData} {body : List Stmt} {a : V} {x : PySem.Str} {Q : V → AH → Prop}
    (ok : f.Ok (d + 1) ns) (hk : C.K.lookup fa = some ⟨oc, od, .func fd, osl⟩) (hbody : fd.body = .stmts body) (hcode : codeIn C.K fd.code fd.qualname = true)
    (hg : fd.globals = mainGlobals) (hb : fd.builtins = builtinsNs) (hnd : (fd.scope.names.map (·.1)).Nodup) (hdbg : (fd.scope.names.map (·.1)).all (fun x => !(x == ("__debug__" : PySem.Str))) = true)
    (hco : fd.scope.isCoroutine = false) (hgen : fd.scope.isGenerator = false) (hkind : fd.scope.kind = .function) (hclo : fd.closure = [])
    (hcl : ∀ n, cellsFrom n fd.scope.names [] = [(x, n)]) (hx : fd.scope.names.lookup x = some .cell) (hbind : ∀ ca, bindArgs fd ⟨[ca], []⟩ = pure [(x, ca)])
    (h : ∀ (g : Fx) (c : Addr), g.Ok d fd.scope.names → g.env.cells = [(x, c)] → (f.A.handled = none → g.A.handled = none) → σ c = none → Ex C g NoX (List.replicate fd.scope.names.length none) (execs body g.env) (σ.set c (.cell (some a))) (kDef Q)) :
    OCc C f X ρ (.stat (.ref fa)) [a] [] σ Q := fun F s cg cargs ckw y rg ra rk rkv => by
  cases rg.statI
  obtain rfl := kw_nil rk
  obtain ⟨ca, rfl, rca⟩ := ra.one
  have KI := Cx.inK y
  have hxx : (x == x) = true := beq_self_eq_true x
  refine codeAny_call_cells (body := body) (binds := [(x, ca)]) (Nat.lt_of_le_of_lt (Nat.le_add_right _ _) ok.depth) (KI _ _ hk) rfl (C.nolimit.keeps y.sat.keep) (codeRec_of KI hcode) hbody (hbind ca) hclo ?_ (fun s₁ IC => ?_) hco hgen hkind
  · intro z hz
    rw [List.mem_singleton] at hz
    subst hz
    refine .inr ⟨hx, ?_⟩
    rw [hcl, List.lookup_cons, hxx]; rfl
  have hkx : (callEnvC fd s.heap.objs.size fa).kindOf x = some .cell := hx
  have hce : (callEnvC fd s.heap.objs.size fa).cells = [(x, s.heap.objs.size + 1)] := hcl _
  have cell := IC.cell x (s.heap.objs.size + 1) (by rw [hce, List.lookup_cons, hxx])
  obtain ⟨h₁, tk, rfl⟩ := IC.toInCall.same
  have hkeep := IC.toInCall.keep
  have tp : Tup s.heap h₁ := Tup.ext hkeep
  obtain ⟨oc', hoc, hdc⟩ := cell
  have hcm : bindC (callEnvC fd s.heap.objs.size fa).kindOf [(x, ca)] (fun _ => none) x = some ca := by
    unfold bindC bindC
    rw [if_neg (by rw [hkx]; decide), if_pos rfl]
  rw [hcm] at hdc
  have y₁ := y.enter (h₁ := h₁) (L := s.heap.objs.size) (env := callEnvC fd s.heap.objs.size fa) (A' := f.A.deeper (callEnvC fd s.heap.objs.size fa)) (N := fd.scope.names.map (·.1)) (bs := List.replicate fd.scope.names.length none) (by rw [ok.kind]; decide) ok.frame rfl rfl rfl hkeep
    ⟨_, IC.toInCall.ns, fun i z v _ e => by rw [List.getElem?_replicate] at e; split at e <;> cases e⟩ tk
  obtain ⟨c1, c2, c3, c4⟩ := y.above (c := s.heap.objs.size + 1) (Nat.le_succ _)
  have c5 : s.heap.objs.size + 1 ≠ s.heap.objs.size := Nat.succ_ne_self _
  have y₂ := y₁.add (c := s.heap.objs.size + 1) (o := .cell (some a)) ((AH.set_ne _ _ c3).trans c2) c5 c4 ⟨oc', _, hoc, hdc, fun u hu => by cases hu; exact ⟨ca, rfl, rca.mono tp⟩⟩
  have hok : Fx.Ok d fd.scope.names ⟨f.A.deeper (callEnvC fd s.heap.objs.size fa), callEnvC fd s.heap.objs.size fa, f.stack, callEnvC fd s.heap.objs.size fa :: f.stack⟩ :=
    ⟨rfl, hkind, hg, hb, .inl ⟨rfl, rfl⟩, hnd, hdbg, deeper_depth ok.depth, deeper_units ok.units, Around.frames_deeper ok.frames⟩
  refine wpAny_mono (h _ _ hok hce (fun q => q) c1 _ _ y₂) (fun fl s' ⟨b, ρ', σ', x', r', t', hq⟩ => ?_) (fun _ _ q => q.elim)
  have back := y.leave rfl x'
  have tt : Tup s.heap s'.heap := tp.trans t'
  cases b <;> cases fl <;> first
      | exact r'.elim
      | exact ⟨.none, σ', back, .none, tt, hq⟩
      | exact ⟨_, σ', back, r', tt, hq⟩
theorem closureFor_with {scope : Scope} {env : Env} {cells cl : List (PySem.Str × Addr)} (hc : env.cells = cells) (h : ∀ env : Env, closureFor scope { env with cells := cells } = pure cl) : closureFor scope env = pure cl := by subst hc; exact h env
noncomputable def relabelN (names ns : List (PySem.Str × NameKind)) : List (PySem.Str × NameKind) := names.map fun (n, k) => if (k == .free && ns.lookup n == some .cell) then (n, .cell) else (n, k)
theorem relabel_names {scope : Scope} (ok : f.Ok d ns) : (relabel scope f.env).names = relabelN scope.names ns := by
  unfold relabelN relabel
  refine List.map_congr_left fun x _ => ?_
  obtain ⟨n, k⟩ := x
  show (if (k == .free && f.env.scope.kind == .function && f.env.kindOf n == some .cell) = true then _ else _) = _
  rw [ok.kind, show (ScopeKind.function == ScopeKind.function) = true from rfl, Bool.and_true]
  show (if (k == .free && (f.env.scope.names.lookup n == some .cell)) = true then _ else _) = _
  rw [ok.names]
/-- what is to be looked at in a def with a cell -/
noncomputable def fnGoodC (K : Frag) (a : Addr) (x : PySem.Str) : Bool := match K.lookup a with
  | some ⟨_, _, .func fd, _⟩ => (match fd.body with | .stmts _ => true | _ => false) && codeIn K fd.code fd.qualname && fd.globals == mainGlobals && fd.builtins == builtinsNs &&
      decide (fd.scope.names.map (·.1)).Nodup && ((fd.scope.names.map (·.1)).all (fun x => !(x == ("__debug__" : PySem.Str)))) &&
      !fd.scope.isCoroutine && !fd.scope.isGenerator && fd.scope.kind == .function && fd.closure.isEmpty && fd.scope.names.lookup x == some .cell
  | _ => false
theorem OCc.defC {fa : Addr} {a : V} {x : PySem.Str} {Q : V → AH → Prop} (ok : f.Ok (d + 1) ns) (hg : fnGoodC C.K fa x = true) (hcl : ∀ n, cellsFrom n (fnAt C.K fa).scope.names [] = [(x, n)]) (hbind : ∀ ca, bindArgs (fnAt C.K fa) ⟨[ca], []⟩ = pure [(x, ca)])
    (h : ∀ (g : Fx) (c : Addr), g.Ok d (namesOf (fnAt C.K fa)) → g.env.cells = [(x, c)] → (f.A.handled = none → g.A.handled = none) → σ c = none → Ex C g NoX (List.replicate (namesOf (fnAt C.K fa)).length none) (execs (bodyOf (fnAt C.K fa)) g.env) (σ.set c (.cell (some a))) (kDef Q)) :
    OCc C f X ρ (.stat (.ref fa)) [a] [] σ Q := by
  unfold fnGoodC at hg
  split at hg
  · rename_i oc od fd osl hk
    have e : fnAt C.K fa = fd := by unfold fnAt; rw [hk]
    rw [e] at h hbind hcl
    simp only [Bool.and_eq_true, decide_eq_true_eq, beq_iff_eq, Bool.not_eq_true'] at hg
    obtain ⟨⟨⟨⟨⟨⟨⟨⟨⟨⟨h1, h2⟩, h3⟩, h4⟩, h5⟩, h6⟩, h7⟩, h8⟩, h9⟩, h10⟩, h11⟩ := hg
    have hb : fd.body = .stmts (bodyOf fd) := by
      unfold bodyOf
      split at h1
      · rename_i q; rw [q]
      · cases h1
    exact OCc.fnC ok hk hb h2 h3 h4 h5 h6 h7 h8 h9 (List.isEmpty_iff.mp h10) hcl h11 hbind h
  · cases hg
theorem OC.ov_defC {fa : Addr} {a : V} {x : PySem.Str} {Q : V → AH → Prop} (ok : f.Ok (d + 1) ns) (hg : fnGoodC C.K fa x = true) (hcl : ∀ n, cellsFrom n (fnAt C.K fa).scope.names [] = [(x, n)]) (hbind : ∀ ca, bindArgs (fnAt C.K fa) ⟨[ca], []⟩ = pure [(x, ca)]) (hn : K.Nodup) (hl : K.length = O.length)
    (h : ∀ (g : Fx) (c : Addr), g.Ok d (namesOf (fnAt C.K fa)) → g.env.cells = [(x, c)] → (f.A.handled = none → g.A.handled = none) → (c :: K).Nodup → Ex C g NoX (List.replicate (namesOf (fnAt C.K fa)).length none) (execs (bodyOf (fnAt C.K fa)) g.env) (ov (c :: K) (.cell (some a) :: O) σ) (kDef Q)) :
    OC C f X ρ (.stat (.ref fa)) [a] [] (ov K O σ) Q := OCc.oc (OCc.defC ok hg hcl hbind fun g c okg hc hh hf => h g c okg hc hh (ov_new hn hl hf))
noncomputable def isIntC (i : Int) : Value → Bool
  | .int a _ => a == i
  | _ => false
theorem vrs_ints {h : Heap} {i : Int} : ∀ {is : List Nat} {cvs : List Value}, VRs h (is.map fun n : Nat => V.int n) cvs → (∀ v ∈ cvs, ∃ a t, v = .int a t) ∧ cvs.any (isIntC i) = is.any fun n => ((n : Nat) : Int) == i
  | [], cvs, r => by cases r; exact ⟨fun _ q => (nomatch q), rfl⟩
  | n :: is, cvs, r => by
    cases r with
    | cons a b =>
      obtain ⟨t, rfl⟩ := a.intI
      obtain ⟨h1, h2⟩ := vrs_ints b
      exact ⟨fun v q => (List.mem_cons.mp q).elim (fun e => ⟨_, _, e⟩) (h1 v), by rw [List.any_cons, List.any_cons, h2]; rfl⟩
theorem O2.ov_in_ints {i : Int} {l : Addr} {is : List Nat} {Q : V → AH → Prop} (hn : K.Nodup) (g : GetO K O l (.list (is.map fun n : Nat => V.int n))) (h : Q (.bool (is.any fun n => ((n : Nat) : Int) == i)) (ov K O σ)) :
    O2 C f X ρ (compareOp .In) (.int i) (.ref l) (ov K O σ) Q := fun F s ca cb x ra rb => by
  obtain ⟨t, rfl⟩ := ra.intI
  cases rb.refI
  obtain ⟨cvs, n, ho, hr⟩ := x.obj (ov_get hn g)
  obtain ⟨h1, h2⟩ := vrs_ints (i := i) hr
  refine SeqAt.in_listAt (isIntC i) ⟨_, ho, rfl, n, rfl⟩ (fun v hv => ?_) ⟨.bool _, _, x, ?_, Tup.refl _, h⟩
  · obtain ⟨a, u, rfl⟩ := h1 v (by simpa using hv)
    exact SeqAt.EqAt.int_int a u i t
  · rw [show (List.toArray cvs).any (isIntC i) = _ from (Array.any_toList ..).symm.trans h2]; exact .bool
theorem O2.ne_int_none {i : Int} {Q : V → AH → Prop} (h : Q (.bool true) σ) : O2 C f X ρ (compareOp .NotEq) (.int i) .none σ Q := fun F s ca cb x ra rb => by
  cases rb.noneI; obtain ⟨_, rfl⟩ := ra.intI
  with_reducible refine EqNone.ne_int_none ?_
  exact ⟨_, σ, x, .bool, Tup.refl _, h⟩
end
end Mine

namespace Mine
section
local macro_rules | `(tactic| o_head $_) => `(tactic| assumption)
theorem capt (h : PySem.Challenge.rw_kq0020_01.row.Holds) : PySem.Challenge.rw_kq0020_01.row.Holds := by
  k_head
end
end Mine

namespace Mine
noncomputable abbrev lexKP : List PySem.Str := [.ofString "instream", .ofString "infile", .ofString "posix", .ofString "eof", .ofString "commenters", .ofString "wordchars", .ofString "whitespace", .ofString "whitespace_split", .ofString "quotes", .ofString "escape", .ofString "escapedquotes", .ofString "state", .ofString "pushback", .ofString "lineno", .ofString "debug", .ofString "token", .ofString "filestack", .ofString "source", .ofString "_punctuation_chars"]
noncomputable abbrev sioK : List PySem.Str := [.ofString "_StringIO__newline", .ofString "_StringIO__buf", .ofString "_StringIO__pos"]
noncomputable abbrev KK : Params → Frag := capt.heap_1
variable {C : Cx}
theorem g53 (P : Params) : fnGood (KK P) 53 2 = true := by kernel_rfl
theorem g371 (P : Params) : fnGood (KK P) 371 1 = true := by kernel_rfl
theorem g533 (P : Params) : fnGood (KK P) 533 2 = true := by kernel_rfl
theorem g541 (P : Params) : fnGood (KK P) 541 2 = true := by kernel_rfl
theorem g385 (P : Params) : fnGood (KK P) 385 2 = true := by kernel_rfl
theorem g690 (P : Params) : fnGood (KK P) 690 1 = true := by kernel_rfl
theorem g653 (P : Params) : fnGood (KK P) 653 1 = true := by kernel_rfl
theorem g683 (P : Params) : fnGood (KK P) 683 1 = true := by kernel_rfl
theorem b53 (P : Params) (S : Setting) (a b : Value) : peek (KK P) S (bindArgs (fnAt (KK P) 53) ⟨[a, b], []⟩) = some ((((fnAt (KK P) 53).scope.names.map (·.1)).take 2).zip [a, b]) := by kernel_rfl
theorem b371 (P : Params) (S : Setting) (a : Value) : peek (KK P) S (bindArgs (fnAt (KK P) 371) ⟨[a], []⟩) = some ((((fnAt (KK P) 371).scope.names.map (·.1)).take 1).zip [a]) := by kernel_rfl
theorem b385 (P : Params) (S : Setting) (a b : Value) : peek (KK P) S (bindArgs (fnAt (KK P) 385) ⟨[a, b], []⟩) = some ((((fnAt (KK P) 385).scope.names.map (·.1)).take 2).zip [a, b]) := by kernel_rfl
theorem b690 (P : Params) (S : Setting) (a : Value) : peek (KK P) S (bindArgs (fnAt (KK P) 690) ⟨[a], []⟩) = some ((((fnAt (KK P) 690).scope.names.map (·.1)).take 1).zip [a]) := by kernel_rfl
theorem b653 (P : Params) (S : Setting) (a : Value) : peek (KK P) S (bindArgs (fnAt (KK P) 653) ⟨[a], []⟩) = some ((((fnAt (KK P) 653).scope.names.map (·.1)).take 1).zip [a]) := by kernel_rfl
theorem b683 (P : Params) (S : Setting) (a : Value) : peek (KK P) S (bindArgs (fnAt (KK P) 683) ⟨[a], []⟩) = some ((((fnAt (KK P) 683).scope.names.map (·.1)).take 1).zip [a]) := by kernel_rfl
theorem b533 (P : Params) (S : Setting) (a b : Value) : peek (KK P) S (bindArgs (fnAt (KK P) 533) ⟨[a, b], []⟩) = some ((((fnAt (KK P) 533).scope.names.map (·.1)).take 2).zip [a, b]) := by kernel_rfl
theorem gl__index (hK : C.K = KK C.w.params) : Glob C (.ofString "_index") (.ref 53) := .ofR (by rw [hK]; kernel_rfl)
theorem kp__index (hK : C.K = KK C.w.params) : Keeps C (.stat (.ref 53)) := .ofK (by rw [hK]; kernel_rfl)
theorem gl_StringIO (hK : C.K = KK C.w.params) : Glob C (.ofString "StringIO") (.ref 587) := .ofR (by rw [hK]; kernel_rfl)
theorem kp_StringIO (hK : C.K = KK C.w.params) : Keeps C (.stat (.ref 587)) := .ofK (by rw [hK]; kernel_rfl)
theorem gl_shlex (hK : C.K = KK C.w.params) : Glob C (.ofString "shlex") (.ref 722) := .ofR (by rw [hK]; kernel_rfl)
theorem kp_shlex (hK : C.K = KK C.w.params) : Keeps C (.stat (.ref 722)) := .ofK (by rw [hK]; kernel_rfl)
theorem gl__law_digits (hK : C.K = KK C.w.params) : Glob C (.ofString "_law_digits") (.ref 733) := .ofR (by rw [hK]; kernel_rfl)
theorem kp__law_digits (hK : C.K = KK C.w.params) : Keeps C (.stat (.ref 733)) := .ofK (by rw [hK]; kernel_rfl)
theorem gl__law_groups (hK : C.K = KK C.w.params) : Glob C (.ofString "_law_groups") (.ref 740) := .ofR (by rw [hK]; kernel_rfl)
theorem kp__law_groups (hK : C.K = KK C.w.params) : Keeps C (.stat (.ref 740)) := .ofK (by rw [hK]; kernel_rfl)
theorem gl__law_dialect (hK : C.K = KK C.w.params) : Glob C (.ofString "_law_dialect") (.ref 745) := .ofR (by rw [hK]; kernel_rfl)
theorem kp__law_dialect (hK : C.K = KK C.w.params) : Keeps C (.stat (.ref 745)) := .ofK (by rw [hK]; kernel_rfl)
theorem gl__law_spelled (hK : C.K = KK C.w.params) : Glob C (.ofString "_law_spelled") (.ref 752) := .ofR (by rw [hK]; kernel_rfl)
theorem kp__law_spelled (hK : C.K = KK C.w.params) : Keeps C (.stat (.ref 752)) := .ofK (by rw [hK]; kernel_rfl)
theorem gl_type (hK : C.K = KK C.w.params) : Glob C (.ofString "type") (.type "type") := .boot (by rw [hK]; kernel_rfl) (by with_unfolding_all rfl) (by decide)
theorem gl_int (hK : C.K = KK C.w.params) : Glob C (.ofString "int") (.type "int") := .boot (by rw [hK]; kernel_rfl) (by with_unfolding_all rfl) (by decide)
theorem gl_str (hK : C.K = KK C.w.params) : Glob C (.ofString "str") (.type "str") := .boot (by rw [hK]; kernel_rfl) (by with_unfolding_all rfl) (by decide)
theorem gl_len (hK : C.K = KK C.w.params) : Glob C (.ofString "len") (.builtin "len") := .boot (by rw [hK]; kernel_rfl) (by with_unfolding_all rfl) (by decide)
theorem gl_isinstance (hK : C.K = KK C.w.params) : Glob C (.ofString "isinstance") (.builtin "isinstance") := .boot (by rw [hK]; kernel_rfl) (by with_unfolding_all rfl) (by decide)
theorem gl_range (hK : C.K = KK C.w.params) : Glob C (.ofString "range") (.type "range") := .boot (by rw [hK]; kernel_rfl) (by with_unfolding_all rfl) (by decide)
theorem own_lex (hK : C.K = KK C.w.params) : OwnF C 722 lexKP := .of (by rw [hK]; kernel_rfl)
theorem own_sio (hK : C.K = KK C.w.params) : OwnF C 587 sioK := .of (by rw [hK]; kernel_rfl)
theorem m_check (hK : C.K = KK C.w.params) : MethF C 587 sioK (.ofString "_StringIO__check") 371 := .of (by rw [hK]; kernel_rfl)
theorem kp_m_check (hK : C.K = KK C.w.params) : Keeps C (.stat (.ref 371)) := .ofK (by rw [hK]; kernel_rfl)
theorem m_read (hK : C.K = KK C.w.params) : MethF C 587 sioK (.ofString "read") 533 := .of (by rw [hK]; kernel_rfl)
theorem kp_m_read (hK : C.K = KK C.w.params) : Keeps C (.stat (.ref 533)) := .ofK (by rw [hK]; kernel_rfl)
theorem m_readline (hK : C.K = KK C.w.params) : MethF C 587 sioK (.ofString "readline") 541 := .of (by rw [hK]; kernel_rfl)
theorem kp_m_readline (hK : C.K = KK C.w.params) : Keeps C (.stat (.ref 541)) := .ofK (by rw [hK]; kernel_rfl)
theorem m_line (hK : C.K = KK C.w.params) : MethF C 587 sioK (.ofString "_StringIO__line") 385 := .of (by rw [hK]; kernel_rfl)
theorem kp_m_line (hK : C.K = KK C.w.params) : Keeps C (.stat (.ref 385)) := .ofK (by rw [hK]; kernel_rfl)
theorem m_read_token (hK : C.K = KK C.w.params) : MethF C 722 lexKP (.ofString "read_token") 690 := .of (by rw [hK]; kernel_rfl)
theorem kp_m_read_token (hK : C.K = KK C.w.params) : Keeps C (.stat (.ref 690)) := .ofK (by rw [hK]; kernel_rfl)
theorem m_get_token (hK : C.K = KK C.w.params) : MethF C 722 lexKP (.ofString "get_token") 683 := .of (by rw [hK]; kernel_rfl)
theorem kp_m_get_token (hK : C.K = KK C.w.params) : Keeps C (.stat (.ref 683)) := .ofK (by rw [hK]; kernel_rfl)
theorem p_pc (hK : C.K = KK C.w.params) : AProp C 722 (.ofString "punctuation_chars") 653 := .of (pa := 654) (by rw [hK]; kernel_rfl)
theorem b541 (P : Params) (S : Setting) (a : Value) : peek (KK P) S (bindArgs (fnAt (KK P) 541) ⟨[a], []⟩) = some ((((fnAt (KK P) 541).scope.names.map (·.1)).take 2).zip [a, .int (-1) 875]) := by kernel_rfl
theorem g80 (P : Params) : fnGood (KK P) 80 3 = true := by kernel_rfl
theorem g357 (P : Params) : fnGood (KK P) 357 3 = true := by kernel_rfl
theorem g364 (P : Params) : fnGood (KK P) 364 2 = true := by kernel_rfl
theorem b364 (P : Params) (S : Setting) (a b : Value) : peek (KK P) S (bindArgs (fnAt (KK P) 364) ⟨[a, b], []⟩) = some ((((fnAt (KK P) 364).scope.names.map (·.1)).take 2).zip [a, b]) := by kernel_rfl
theorem bs80 (P : Params) (S : Setting) (x y : Addr) (ca : Value) : peek2 (KK P) S x y (bindArgs (fnAt (KK P) 80) ⟨[.ref 587, ca], []⟩) = some (⟨.type "tuple", none, .seq #[ca] 0, #[]⟩, emptyDict, (((fnAt (KK P) 80).scope.names.map (·.1)).take 3).zip [.ref 587, .ref x, .ref y]) := by kernel_rfl
theorem mk587 (P : Params) : makesNB (KK P) 587 84 80 357 = true := by kernel_rfl
theorem md587 (P : Params) (S : Setting) : peek (KK P) S (Bind.madeBy (.ref 587)) = some none := by kernel_rfl
theorem nw587 (P : Params) : newB (KK P) 587 = true := by kernel_rfl
theorem ck587 (P : Params) (S : Setting) : peek (KK P) S (checkBuiltinCall "object.__new__" ⟨[.ref 587], []⟩) = some () := by kernel_rfl
theorem mh587 (P : Params) (S : Setting) : peek (KK P) S (Bind.madeHere "object.__new__" (.ref 587)) = some () := by kernel_rfl
theorem gl_BytesIO (hK : C.K = KK C.w.params) : Glob C (.ofString "BytesIO") (.ref 340) := .ofR (by rw [hK]; kernel_rfl)
theorem gl_object (hK : C.K = KK C.w.params) : Glob C (.ofString "object") (.type "object") := .boot (by rw [hK]; kernel_rfl) (by with_unfolding_all rfl) (by decide)
theorem in_587_340 (hK : C.K = KK C.w.params) (S : Setting) : peek C.K S (compareOp .IsNot (.ref 587) (.ref 340)) = some (.bool true) := by rw [hK]; kernel_rfl
theorem in_587_587 (hK : C.K = KK C.w.params) (S : Setting) : peek C.K S (compareOp .IsNot (.ref 587) (.ref 587)) = some (.bool false) := by rw [hK]; kernel_rfl
theorem ob_new (hK : C.K = KK C.w.params) : findCls C.K (.type "object") (.type "type") "__new__" = some (.val (.builtin "object.__new__")) := by rw [hK]; kernel_rfl
theorem ty_object : typeOf (.type "object") = pure (.type "type") := by kernel_rfl
theorem om_obj_new {f : Fx} {X : XT} {ρ : Loc} {σ : AH} (hK : C.K = KK C.w.params) {Q : V → List V → AH → Prop} (h : Q (.stat (.builtin "object.__new__")) [] σ) : OM C f X ρ (.ofString "__new__") (.stat (.type "object")) σ Q := OM.type_val ty_object (by decide +kernel) (ob_new hK) rfl h
theorem b357 (P : Params) (S : Setting) (a b : Value) : peek (KK P) S (bindArgs (fnAt (KK P) 357) ⟨[a, b], []⟩) = some ((((fnAt (KK P) 357).scope.names.map (·.1)).take 3).zip [a, b, .str (tx [10]) 671]) := by kernel_rfl
theorem m_translated (hK : C.K = KK C.w.params) : MethF C 587 sioK (.ofString "_StringIO__translated") 364 := .of (by rw [hK]; kernel_rfl)
theorem kp_m_translated (hK : C.K = KK C.w.params) : Keeps C (.stat (.ref 364)) := .ofK (by rw [hK]; kernel_rfl)
theorem g646 (P : Params) : fnGood (KK P) 646 5 = true := by kernel_rfl
theorem mk722 (hK : C.K = KK C.w.params) : makesIn C.K 722 = true := by rw [hK]; kernel_rfl
theorem mi722 (hK : C.K = KK C.w.params) : isR (findIn C.K (.ref 722) "__init__") 646 = true := by rw [hK]; kernel_rfl
theorem mf722 (hK : C.K = KK C.w.params) : (typeIn C.K (.ref 646) == some (.type "function")) = true := by rw [hK]; kernel_rfl
theorem gl_deque (hK : C.K = KK C.w.params) : Glob C (.ofString "deque") (.type "collections.deque") := .top (by rw [hK]; kernel_rfl)
theorem b646 (P : Params) (S : Setting) (a b : Value) : peek (KK P) S (bindArgs (fnAt (KK P) 646) ⟨[a, b], [("posix", .bool true)]⟩) = some ((((fnAt (KK P) 646).scope.names.map (·.1)).take 5).zip [a, b, .none, .bool true, .bool false]) := by kernel_rfl
theorem g733 (P : Params) : fnGood (KK P) 733 1 = true := by kernel_rfl
theorem b733 (P : Params) (S : Setting) (a : Value) : peek (KK P) S (bindArgs (fnAt (KK P) 733) ⟨[a], []⟩) = some ((((fnAt (KK P) 733).scope.names.map (·.1)).take 1).zip [a]) := by kernel_rfl
theorem g740 (P : Params) : fnGood (KK P) 740 1 = true := by kernel_rfl
theorem b740 (P : Params) (S : Setting) (a : Value) : peek (KK P) S (bindArgs (fnAt (KK P) 740) ⟨[a], []⟩) = some ((((fnAt (KK P) 740).scope.names.map (·.1)).take 1).zip [a]) := by kernel_rfl
theorem g752 (P : Params) : fnGood (KK P) 752 2 = true := by kernel_rfl
theorem b752 (P : Params) (S : Setting) (a b : Value) : peek (KK P) S (bindArgs (fnAt (KK P) 752) ⟨[a, b], []⟩) = some ((((fnAt (KK P) 752).scope.names.map (·.1)).take 2).zip [a, b]) := by kernel_rfl
end Mine

namespace Mine
local macro_rules | `(tactic| walk_at "gGetAt") => `(tactic| first | with_reducible exact GetAt.head | ((with_reducible apply GetAt.tail); walk_at "gGetAt"))
local macro_rules | `(tactic| walk_at "gGetO") => `(tactic| first | with_reducible exact GetO.head | ((with_reducible apply GetO.tail); walk_at "gGetO"))
local macro_rules | `(tactic| walk_at "gPutO") => `(tactic| first | with_reducible exact PutO.head | ((with_reducible apply PutO.tail); walk_at "gPutO"))
local macro_rules | `(tactic| walk_at "gGetF") => `(tactic| first | with_reducible exact GetF.head | ((with_reducible apply GetF.tail); walk_at "gGetF"))
local macro_rules | `(tactic| walk_at "gAppF") => `(tactic| first | with_reducible exact AppF.head | ((with_reducible apply AppF.tail); walk_at "gAppF"))
local macro_rules | `(tactic| walk_at "gPutF") => `(tactic| first | with_reducible exact PutF.head | ((with_reducible apply PutF.tail); walk_at "gPutF"))
local macro_rules | `(tactic| walk_at "gPutAt") => `(tactic| first | with_reducible exact PutAt.head | ((with_reducible apply PutAt.tail); walk_at "gPutAt"))
local macro_rules | `(tactic| walk_at "gGlobAt") => `(tactic| first | with_reducible exact GlobAt.head | ((with_reducible apply GlobAt.tail); walk_at "gGlobAt"))
local macro_rules | `(tactic| walk_at "asm") => `(tactic| with_reducible assumption)
local macro_rules | `(tactic| walk_at "glob") => `(tactic| first | with_reducible assumption | walk_at "globs" )
local macro_rules | `(tactic| walk_at "keep") => `(tactic| first | with_reducible exact Mine.Keeps.builtin | with_reducible exact Mine.Keeps.type | with_reducible assumption | walk_at "keeps")
local macro_rules | `(tactic| walk_at "ite") => `(tactic| first | with_reducible refine ite_t ?_ | with_reducible refine ite_f ?_ | with_reducible refine ite_n ?_ | with_reducible refine ite_e (c := true) (by with_reducible assumption) (ite_t ?_) | with_reducible refine ite_e (c := false) (by with_reducible assumption) (ite_f ?_) | (with_reducible refine ite_e (c := true) (by decide) (ite_t ?_)) | (with_reducible refine ite_e (c := false) (by decide) (ite_f ?_)) | (with_reducible refine ite_e (c := true) (by walk_at "cond") (ite_t ?_)) | (with_reducible refine ite_e (c := false) (by walk_at "cond") (ite_f ?_)) | ((with_reducible refine ite_b ?_ ?_) <;> intro _))
local macro_rules | `(tactic| walk_at "ex") => `(tactic| first | with_reducible refine Ex.cons ?_ | with_reducible refine Ex.nil ?_ | with_reducible refine Ex.ite ?_ | ((with_reducible refine Ex.isAssign ?_); with_reducible refine Ex.assign ?_ (by with_unfolding_all rfl) (by with_unfolding_all rfl) (by with_unfolding_all rfl)) | ((with_reducible apply Ex.aug_loc); (focus (walk_at "asm")); (focus (walk_at "gGetAt"))) | with_reducible refine Ex.aug_attr ?_ | with_reducible refine Ex.ret ?_ | with_reducible refine Ex.brk ?_ | with_reducible refine Ex.cont ?_ | with_reducible refine Ex.pass ?_ | with_reducible refine Ex.ret_none ?_ | ((with_reducible apply Ex.expr'); (focus (walk_at "asm")); (focus (with_unfolding_all rfl))))
local macro_rules | `(tactic| walk_at "ev") => `(tactic| first | ((with_reducible apply Ev.loc); (focus (walk_at "asm")); (focus (walk_at "gGetAt"))) | ((with_reducible refine Ev.isAttr ?_); with_reducible refine Ev.attr ?_) | with_reducible refine Ev.const_int ?_ | with_reducible refine Ev.const_none ?_ | with_reducible refine Ev.const_bool ?_ | with_reducible refine Ev.const_chars ?_ | ((with_reducible apply Ev.glob); (focus (walk_at "asm")); (focus (walk_at "gGlobAt")); (focus (walk_at "glob"))) | ((with_reducible refine Ev.isCmp ?_); with_reducible refine Ev.compare1 ?_) | with_reducible refine Ev.binop ?_ | with_reducible refine Ev.unop ?_ | ((with_reducible refine Ev.isMCall ?_); with_reducible refine Ev.method ?_) | ((with_reducible refine Ev.isCall ?_); with_reducible refine Ev.call ?_) | with_reducible refine Ev.tuple ?_ | with_reducible refine Ev.ov_list ?_ | with_reducible refine Ev.ov_slice_list ?_ | with_reducible refine Ev.subscript ?_ | with_reducible refine Ev.ifexp ?_ | with_reducible refine Ev.boolop ?_ | with_reducible refine Ev.bo_one ?_ | with_reducible refine Ev.bo_cons ?_)
local macro_rules | `(tactic| walk_at "et") => `(tactic| first | ((with_reducible refine Et.isCmp ?_); first | with_reducible refine Et.compare1 ?_ | with_reducible refine Et.compare2 ?_) | with_reducible refine Et.not ?_ | with_reducible refine Et.boolop ?_ | with_reducible refine Et.and_cons ?_ | with_reducible refine Et.or_cons ?_ | with_reducible refine Et.and_nil ?_ | with_reducible refine Et.or_nil ?_ | with_reducible refine Et.value ?_)
local macro_rules | `(tactic| walk_at "o2") => `(tactic| first | ((with_reducible apply O2.add_str); (focus (walk_at "sz"))) | ((with_reducible apply O2.iadd_str); (focus (walk_at "sz"))) | ((with_reducible apply O2.mod_int); (focus (walk_at "nz"))) | ((with_reducible apply O2.div_int); (focus (walk_at "nz")); (focus (walk_at "dv"))) | with_reducible refine O2.in_str ?_ | with_reducible refine O2.eq_str ?_ | with_reducible refine O2.ge_int ?_ | with_reducible refine O2.is_none_str ?_ | with_reducible refine O2.is_none_none ?_ | with_reducible refine O2.is_none_int ?_ | with_reducible refine O2.is_none_ref ?_ | with_reducible refine O2.is_none_tup ?_ | with_reducible refine O2.isnot_none_str ?_ | with_reducible refine O2.isnot_none_none ?_ | with_reducible refine O2.isnot_none_ref ?_ | ((with_reducible apply O2.is_none); (focus (with_unfolding_all rfl))) | ((with_reducible apply O2.isnot_none); (focus (with_unfolding_all rfl))) | with_reducible refine O2.gt_int ?_ | with_reducible refine O2.lt_int ?_ | with_reducible refine O2.add_int ?_ | with_reducible refine O2.iadd_int ?_ | with_reducible refine O2.notin_str ?_ | with_reducible refine O2.ne_str ?_ | with_reducible refine O2.eq_int ?_ | with_reducible refine O2.isnot_type ?_ | with_reducible refine O2.sub_int ?_ | with_reducible refine O2.le_int ?_ | with_reducible refine O2.ne_int ?_ | with_reducible refine O2.eq_none_str ?_ | with_reducible refine O2.eq_str_none ?_ | with_reducible refine O2.eq_none_none ?_ | with_reducible refine O2.ne_none_str ?_ | with_reducible refine O2.ne_str_none ?_ | with_reducible refine O2.ne_none_none ?_ | ((with_reducible apply O2.in_tup); (focus (with_unfolding_all rfl))))
local macro_rules | `(tactic| walk_at "o1") => `(tactic| first | ((with_reducible apply O1.ov_attr); (focus (walk_at "asm")); (focus (walk_at "gGetO")); (focus (walk_at "gGetO")); (focus (walk_at "own")); (focus (walk_at "gGetF")); (focus (with_unfolding_all rfl))) | (((with_reducible apply O1.ov_prop); (focus (walk_at "asm")); (focus (walk_at "asm")); (focus (walk_at "gGetO")); (focus (walk_at "gGetO")); (focus (walk_at "prop"))); walk_at "pfns") | with_reducible refine O1.neg_int ?_ | with_reducible refine O1.not ?_)
local macro_rules | `(tactic| walk_at "ot") => `(tactic| first | with_reducible refine OT.bool ?_ | with_reducible refine OT.none ?_ | with_reducible refine OT.int ?_ | ((with_reducible apply OT.ov_deque); (focus (walk_at "asm")); (focus (walk_at "gGetO")); (focus (walk_at "sz"))) | ((with_reducible apply OT.ov_list); (focus (walk_at "asm")); (focus (walk_at "gGetO")); (focus (walk_at "sz"))) | ((with_reducible apply OT.str); (focus (walk_at "sz"))))
local macro_rules | `(tactic| walk_at "sz") => `(tactic| first | with_reducible assumption | decide | (simp; done) | (simp; omega) | omega | walk_at "sz2")
local macro_rules | `(tactic| walk_at "om") => `(tactic| first | ((with_reducible apply OM.ov_inst); (focus (walk_at "asm")); (focus (walk_at "gGetO")); (focus (walk_at "gGetO")); (focus (walk_at "meth"))) | ((with_reducible apply OM.ov_list); (focus (walk_at "asm")); (focus (walk_at "gGetO")); (focus (walk_at "slot")); (focus (walk_at "slot"))) | ((with_reducible apply OM.ov_deque); (focus (walk_at "asm")); (focus (walk_at "gGetO")); (focus (walk_at "slot")); (focus (walk_at "slot"))) | ((with_reducible apply OM.str); (focus (walk_at "slot")); (focus (walk_at "slot"))))
local macro_rules | `(tactic| walk_at "oc") => `(tactic| first | with_reducible refine OC.cat1 ?_ | walk_at "fns" | with_reducible refine OC.type_of (T := "int") (.inl ⟨rfl, _, rfl⟩) ?_ | with_reducible refine OC.type_of (T := "str") (.inr ⟨rfl, _, rfl⟩) ?_ | with_reducible refine OC.int_int ?_ | with_reducible refine OC.isi_str ?_ | ((with_reducible apply OC.len_str); (focus (walk_at "sz"))) | ((with_reducible apply OC.ov_len); (focus (walk_at "asm")); (focus (walk_at "gGetO")); (focus (walk_at "sz"))) | ((with_reducible apply OC.ov_append); (focus (walk_at "asm")); (focus (walk_at "gGetO")); (focus (walk_at "sz")); (focus (walk_at "gPutO"))) | ((with_reducible apply OC.ov_appendleft); (focus (walk_at "asm")); (focus (walk_at "gGetO")); (focus (walk_at "sz")); (focus (walk_at "gPutO"))) | ((with_reducible apply OC.ov_dappend0); (focus (walk_at "asm")); (focus (walk_at "gGetO")); (focus (walk_at "gPutO"))) | ((with_reducible apply OC.ov_dpop1); (focus (walk_at "asm")); (focus (walk_at "gGetO")); (focus (walk_at "gPutO"))) | ((with_reducible apply OC.ov_popleft); (focus (walk_at "asm")); (focus (walk_at "gGetO")); (focus (walk_at "sz")); (focus (walk_at "gPutO"))) | ((with_reducible apply OC.find3); (focus (walk_at "sz"))) | with_reducible refine OC.abs ?_)
local macro_rules | `(tactic| walk_at "pall") => `(tactic| first | with_reducible exact PutAll.nil | ((with_reducible apply PutAll.cons); (focus (walk_at "pall")); (walk_at "gPutO")))
local macro_rules | `(tactic| walk_at "w") => `(tactic| first | ((with_reducible show Ev _ _ _ _ _ _ _); walk_at "ev") | ((with_reducible show Et _ _ _ _ _ _ _); walk_at "et") | ((with_reducible show Ex _ _ _ _ _ _ _); walk_at "ex") | ((with_reducible show O2 _ _ _ _ _ _ _ _ _); walk_at "o2") | ((with_reducible show O1 _ _ _ _ _ _ _ _); walk_at "o1") | ((with_reducible show OT _ _ _ _ _ _ _); walk_at "ot") | ((with_reducible show OM _ _ _ _ _ _ _ _); walk_at "om") | ((with_reducible show OC _ _ _ _ _ _ _ _ _); walk_at "oc") | ((with_reducible show (if _ then _ else _)); walk_at "ite") | with_reducible refine El.cons ?_ | with_reducible refine El.nil ?_ | with_reducible refine Ek.nil ?_ | ((with_reducible apply Ek.cons); (focus (with_unfolding_all rfl))) | ((with_reducible show Mine.Keeps _ _ ∧ _); refine ⟨by walk_at "keep", ?_⟩) | ((with_reducible show AsV _ _ _ _ _ _ _ _); first | ((with_reducible apply AsV.loc); (focus (walk_at "asm")); (focus (walk_at "gPutAt"))) | with_reducible refine AsV.attr ?_) | ((with_reducible apply AS.ov); (focus (walk_at "asm")); (focus (walk_at "gGetO")); (focus (walk_at "gGetO")); (focus (walk_at "own")); (focus (walk_at "gPutF")); (focus (walk_at "gPutO"))) | ((with_reducible apply AS.ov_app); (focus (walk_at "asm")); (focus (walk_at "gGetO")); (focus (walk_at "gGetO")); (focus (walk_at "own")); (focus (walk_at "gAppF")); (focus (walk_at "gPutO"))) | (with_reducible refine Ep.i ?_) | ((with_reducible apply sl_str); (focus (walk_at "sz"))) | ((with_reducible apply sl_list); (focus (walk_at "asm")); (focus (walk_at "gGetO")); (focus (walk_at "sz")); (focus (walk_at "len")); intro _ _) | ((with_reducible apply dl_list); (focus (walk_at "sz")); (focus (walk_at "asm")); (focus (walk_at "len")); intro _ _) | ((with_reducible apply dl_tup); (focus (walk_at "sz"))) | (with_reducible refine Ep.none ?_) | (with_reducible refine Ep.some ?_) | dsimp only)
local macro_rules | `(tactic| walk_at "ww") => `(tactic| repeat' walk_at "w")
local macro_rules | `(tactic| walk_at "slot") => `(tactic| first | with_reducible exact PySem.F.slot_str_find | with_reducible exact PySem.F.type_str_find | with_reducible exact PySem.F.slot_list_append | with_reducible exact PySem.F.type_list_append | with_reducible exact PySem.F.slot_list_pop | with_reducible exact PySem.F.type_list_pop | with_reducible exact PySem.F.slot_list_insert | with_reducible exact PySem.F.type_list_insert | with_reducible exact slot_deque_append | with_reducible exact type_deque_append | with_reducible exact slot_deque_pop | with_reducible exact type_deque_pop | with_reducible exact slot_deque_popleft | with_reducible exact type_deque_popleft | with_reducible exact slot_deque_appendleft | with_reducible exact type_deque_appendleft)
local macro_rules | `(tactic| walk_at "fns") => `(tactic| fail)
local macro_rules | `(tactic| walk_at "globs") => `(tactic| fail)
local macro_rules | `(tactic| walk_at "keeps") => `(tactic| fail)
local macro_rules | `(tactic| walk_at "own") => `(tactic| fail)
local macro_rules | `(tactic| walk_at "meth") => `(tactic| fail)
local macro_rules | `(tactic| walk_at "prop") => `(tactic| fail)
local macro_rules | `(tactic| walk_at "pfns") => `(tactic| fail)
local macro_rules | `(tactic| walk_at "cond") => `(tactic| fail)
local macro_rules | `(tactic| walk_at "in") => `(tactic| (conv in (bodyOf _) => whnf); (conv in (namesOf _) => whnf); simp only [List.map_cons, List.map_nil, List.length_cons, List.length_nil, List.replicate, Nat.reduceAdd, Nat.reduceSub, List.cons_append, List.nil_append])
local macro_rules | `(tactic| walk_at "sub") => `(tactic| first | exact List.nil_sublist _ | ((with_reducible apply List.Sublist.cons₂); walk_at "sub") | ((with_reducible apply List.Sublist.cons); walk_at "sub"))
local macro_rules | `(tactic| walk_at "nd") => `(tactic| ((apply List.Nodup.sublist); rotate_left; (focus (with_reducible assumption)); walk_at "sub"))
local macro_rules | `(tactic| walk_at "sz2") => `(tactic| fail)
local macro_rules | `(tactic| walk_at "nz") => `(tactic| first | decide | with_reducible assumption)
local macro_rules | `(tactic| walk_at "dv") => `(tactic| first | with_reducible assumption | rfl)
local macro_rules | `(tactic| walk_at "len") => `(tactic| first | assumption | with_unfolding_all rfl | (simp only [List.length_cons]; omega))
local macro_rules | `(tactic| walk_at "globs") => `(tactic| first | with_reducible exact gl__index (by walk_at "asm") | with_reducible exact gl__wall (by walk_at "asm") | with_reducible exact gl_StringIO (by walk_at "asm") | with_reducible exact gl_shlex (by walk_at "asm") | with_reducible exact gl__law_digits (by walk_at "asm") | with_reducible exact gl__law_groups (by walk_at "asm") | with_reducible exact gl__law_dialect (by walk_at "asm") | with_reducible exact gl__law_spelled (by walk_at "asm") | with_reducible exact gl_type (by walk_at "asm") | with_reducible exact gl_int (by walk_at "asm") | with_reducible exact gl_bool (by walk_at "asm") | with_reducible exact gl_str (by walk_at "asm") | with_reducible exact gl_len (by walk_at "asm") | with_reducible exact gl_isinstance (by walk_at "asm") | with_reducible exact gl_range (by walk_at "asm") | with_reducible exact gl_abs (by walk_at "asm"))
local macro_rules | `(tactic| walk_at "keeps") => `(tactic| first | with_reducible exact kp__index (by walk_at "asm") | with_reducible exact kp__wall (by walk_at "asm") | with_reducible exact kp_StringIO (by walk_at "asm") | with_reducible exact kp_shlex (by walk_at "asm") | with_reducible exact kp__law_digits (by walk_at "asm") | with_reducible exact kp__law_groups (by walk_at "asm") | with_reducible exact kp__law_dialect (by walk_at "asm") | with_reducible exact kp__law_spelled (by walk_at "asm") | with_reducible exact kp_m_check (by walk_at "asm") | with_reducible exact kp_m_read (by walk_at "asm") | with_reducible exact kp_m_readline (by walk_at "asm") | with_reducible exact kp_m_line (by walk_at "asm") | with_reducible exact kp_m_read_token (by walk_at "asm") | with_reducible exact kp_m_get_token (by walk_at "asm") | with_reducible exact kp_m_push_token (by walk_at "asm"))
local macro_rules | `(tactic| walk_at "own") => `(tactic| first | with_reducible exact own_lex (by walk_at "asm") | with_reducible exact own_sio (by walk_at "asm"))
local macro_rules | `(tactic| walk_at "meth") => `(tactic| first | with_reducible exact m_check (by walk_at "asm") | with_reducible exact m_read (by walk_at "asm") | with_reducible exact m_readline (by walk_at "asm") | with_reducible exact m_line (by walk_at "asm") | with_reducible exact m_read_token (by walk_at "asm") | with_reducible exact m_get_token (by walk_at "asm") | with_reducible exact m_push_token (by walk_at "asm"))
local macro_rules | `(tactic| walk_at "prop") => `(tactic| first | with_reducible exact p_pc (by walk_at "asm"))
section
variable {C : Cx} {f : Fx} {ns : List (PySem.Str × NameKind)} {d : Nat} {X : XT} {ρ : Loc} {σ : AH}
local macro_rules | `(tactic| walk_at "cond") => `(tactic| (simp only [decide_eq_true_eq, decide_eq_false_iff_not]; omega))
theorem f_index (hK : C.K = KK C.w.params) (ok : f.Ok (d + 1) ns) {i : Int} {l : List Nat} {Q : V → AH → Prop} (h1 : i ≤ 1099511627776) (h2 : -1099511627776 ≤ i) (h : Q (.int i) σ) :
    OC C f X ρ (.stat (.ref 53)) [.int i, .str l] [] σ Q := by
  refine OC.def ok (by rw [hK]; exact g53 _) (Binds.p2 (by rw [hK]; exact b53 _)) fun f' ok' hh => ?_
  clear ok
  rw [hK] at ok' ⊢
  conv at ok' in (namesOf _) => whnf
  walk_at "in"
  walk_at "ww"
  exact h
noncomputable abbrev sio (nl buf : List Nat) (pos : Nat) : AO := fields sioK [.str nl, .str buf, .int pos]
theorem f_check (hK : C.K = KK C.w.params) (ok : f.Ok (d + 1) ns) {x sd : Addr} {nl buf : List Nat} {pos : Nat} (hn : [x, sd].Nodup) {Q : V → AH → Prop} (h : Q .none (ov [x, sd] [.inst 587 sd, sio nl buf pos] σ)) :
    OC C f X ρ (.stat (.ref 371)) [.ref x] [] (ov [x, sd] [.inst 587 sd, sio nl buf pos] σ) Q := by
  refine OC.def ok (by rw [hK]; exact g371 _) (Binds.p1 (by rw [hK]; exact b371 _)) fun f' ok' hh => ?_
  clear ok
  rw [hK] at ok' ⊢
  conv at ok' in (namesOf _) => whnf
  walk_at "in"
  walk_at "ww"
  exact h
theorem lf_check (hK : C.K = KK C.w.params) (ok : f.Ok (d + 1) ns) {K : List Addr} {O : List AO} (hn : K.Nodup) {x sd : Addr} {nl buf : List Nat} {pos : Nat} (g : PutAll K O [x, sd] [.inst 587 sd, sio nl buf pos] O) (hs : [sd, x].Nodup) {Q : V → AH → Prop} (h : Q .none (ov K O σ)) :
    OC C f X ρ (.stat (.ref 371)) [.ref x] [] (ov K O σ) Q := OC.lift hn (fun _ _ h => f_check hK ok (by simp at hs ⊢; exact Ne.symm hs) h) g g h
local macro_rules | `(tactic| walk_at "fns") => `(tactic| first
  | ((with_reducible apply f_index); (focus (walk_at "asm")); (focus (walk_at "asm")); (focus (decide)); (focus (decide)))
  | ((with_reducible apply lf_check); (focus (walk_at "asm")); (focus (walk_at "asm")); (focus (walk_at "asm")); (focus (walk_at "pall")); (focus (walk_at "nd"))))
local macro_rules | `(tactic| walk_at "sz2") => `(tactic| first | (refine Nat.le_trans (Nat.add_le_add (pslice_length_le _ _ _) (Nat.le_refl _)) ?_; simp [ofC]; omega) | (rw [List.length_append]; refine Nat.le_trans (Nat.add_le_add (pslice_length_le _ _ _) (Nat.le_refl _)) ?_; simp [ofC]; omega))
theorem clip_pos {n pos : Nat} (h : pos ≤ n) : clipAt n (pos : Int) = pos := by unfold clipAt; split <;> omega
theorem read_cut {buf : List Nat} {a b : Nat} (ha : a ≤ buf.length) (hb : b ≤ buf.length) : pslice (pslice buf (some a) (some b) ++ ofC [' ']) none (some (-1)) = (buf.drop a).take (b - a) := by
  unfold pslice
  simp only [Option.elim, clip_pos ha, clip_pos hb]
  have : clipAt (((buf.drop a).take (b - a)) ++ ofC [' ']).length (-1) = ((buf.drop a).take (b - a)).length := by
    unfold clipAt; simp [ofC]; omega
  rw [this, Nat.sub_zero, List.drop_zero, List.take_left]
theorem f_read1 (hK : C.K = KK C.w.params) (ok : f.Ok (d + 3) ns) {x sd : Addr} {nl buf : List Nat} {pos : Nat} (hn : [sd, x].Nodup) (hb : buf.length ≤ 1000000) {Q : V → AH → Prop}
    (h : Q (.str ((buf.drop pos).take 1)) (ov [sd, x] [sio nl buf (if pos < buf.length then pos + 1 else pos), .inst 587 sd] σ)) :
    OC C f X ρ (.stat (.ref 533)) [.ref x, .int 1] [] (ov [sd, x] [sio nl buf pos, .inst 587 sd] σ) Q := by
  refine OC.def ok (by rw [hK]; exact g533 _) (Binds.p2 (by rw [hK]; exact b533 _)) fun f' ok' hh => ?_
  clear ok
  rw [hK] at ok' ⊢
  conv at ok' in (namesOf _) => whnf
  walk_at "in"
  walk_at "ww"
  · have e : pos ≥ buf.length := by simp at *; omega
    rw [if_neg (by omega), List.drop_eq_nil_of_le e] at h
    exact h
  · rename_i e1 e2
    simp only [decide_eq_false_iff_not, decide_eq_true_eq] at e1 e2
    rw [show ((pos : Int) + 1) = ((pos + 1 : Nat) : Int) from rfl, read_cut (by omega) (by omega)]
    rw [if_pos (by omega)] at h
    rw [show pos + 1 - pos = 1 by omega]
    exact h
  · rename_i e1 e2
    simp only [decide_eq_false_iff_not, decide_eq_true_eq] at e1 e2
    have e : pos + 1 = buf.length := by omega
    rw [read_cut (by omega) (by omega), ← e]
    rw [if_pos (by omega)] at h
    rw [show pos + 1 - pos = 1 by omega]
    exact h
/-- where the line ends -/
noncomputable def lineEnd (buf : List Nat) (pos : Nat) : Nat := match pos? 10 (buf.drop pos) with
  | some k => pos + k + 1
  | none => buf.length
theorem pos?_lt {c : Nat} : ∀ {l : List Nat} {k : Nat}, pos? c l = some k → k < l.length
  | [], _, h => by cases h
  | x :: r, k, h => by
    unfold pos? at h
    split at h
    · cases h; simp
    · cases q : pos? c r with
      | none => rw [q] at h; cases h
      | some j => rw [q] at h; cases h; have := pos?_lt q; simpa using this
theorem f_line (hK : C.K = KK C.w.params) (ok : f.Ok (d + 3) ns) {x sd : Addr} {buf : List Nat} {pos : Nat} (hn : [sd, x].Nodup) (hb : buf.length ≤ 1000000) (hp : pos < buf.length) {Q : V → AH → Prop}
    (h : ∀ l, Q (.str l) (ov [sd, x] [sio [10] buf (lineEnd buf pos), .inst 587 sd] σ)) :
    OC C f X ρ (.stat (.ref 385)) [.ref x, .int (-1)] [] (ov [sd, x] [sio [10] buf pos, .inst 587 sd] σ) Q := by
  refine OC.def ok (by rw [hK]; exact g385 _) (Binds.p2 (by rw [hK]; exact b385 _)) fun f' ok' hh => ?_
  clear ok
  rw [hK] at ok' ⊢
  conv at ok' in (namesOf _) => whnf
  walk_at "in"
  walk_at "ww"
  · rename_i e1
    cases hq : pos? 10 (buf.drop pos) with
    | none => rw [hq] at e1; simp at e1
    | some k =>
      have := h (pslice (pslice buf (some (pos : Int)) (some ((pos : Int) + k + 1)) ++ ofC [' ']) none (some (-1)))
      unfold lineEnd at this
      simp only [hq] at this
      exact this
  · rename_i e1
    cases hq : pos? 10 (buf.drop pos) with
    | some k => rw [hq] at e1; simp at e1; omega
    | none =>
      have := h (pslice (pslice buf (some (pos : Int)) (some (buf.length : Int)) ++ ofC [' ']) none (some (-1)))
      unfold lineEnd at this
      simp only [hq] at this
      exact this
/-- at the end nothing is read -/
theorem f_line0 (hK : C.K = KK C.w.params) (ok : f.Ok (d + 3) ns) {x sd : Addr} {buf : List Nat} {pos : Nat} (hn : [sd, x].Nodup) (hb : buf.length ≤ 1000000) (hp : buf.length ≤ pos) {Q : V → AH → Prop}
    (h : ∀ l, Q (.str l) (ov [sd, x] [sio [10] buf pos, .inst 587 sd] σ)) :
    OC C f X ρ (.stat (.ref 385)) [.ref x, .int (-1)] [] (ov [sd, x] [sio [10] buf pos, .inst 587 sd] σ) Q := by
  refine OC.def ok (by rw [hK]; exact g385 _) (Binds.p2 (by rw [hK]; exact b385 _)) fun f' ok' hh => ?_
  clear ok
  rw [hK] at ok' ⊢
  conv at ok' in (namesOf _) => whnf
  walk_at "in"
  walk_at "ww"
  all_goals exact h _
/-- the place behind the line -/
noncomputable def lineOf (buf : List Nat) (pos : Nat) : Nat := if pos < buf.length then lineEnd buf pos else pos
theorem f_lineX (hK : C.K = KK C.w.params) (ok : f.Ok (d + 3) ns) {K : List Addr} {O O' : List AO} (hn : K.Nodup) {x sd : Addr} {buf : List Nat} {pos : Nat} (hb : buf.length ≤ 1000000)
    (g : PutAll K O [sd, x] [sio [10] buf pos, .inst 587 sd] O) (hs : [sd, x].Nodup) (p : PutAll K O [sd, x] [sio [10] buf (lineOf buf pos), .inst 587 sd] O') {Q : V → AH → Prop}
    (h : ∀ l, Q (.str l) (ov K O' σ)) : OC C f X ρ (.stat (.ref 385)) [.ref x, .int (-1)] [] (ov K O σ) Q := by
  rw [← ov_ov hn g]
  by_cases hp : pos < buf.length
  · refine f_line hK ok hs hb hp fun l => ?_
    have := h l
    rw [← ov_ov hn p] at this
    unfold lineOf at this
    rw [if_pos hp] at this; exact this
  · refine f_line0 hK ok hs hb (by omega) fun l => ?_
    have := h l
    rw [← ov_ov hn p] at this
    unfold lineOf at this
    rw [if_neg hp] at this; exact this
theorem f_readline (hK : C.K = KK C.w.params) (ok : f.Ok (d + 5) ns) {x sd : Addr} {buf : List Nat} {pos : Nat} (hn : [sd, x].Nodup) (hb : buf.length ≤ 1000000) {Q : V → AH → Prop}
    (h : ∀ l, Q (.str l) (ov [sd, x] [sio [10] buf (lineOf buf pos), .inst 587 sd] σ)) :
    OC C f X ρ (.stat (.ref 541)) [.ref x] [] (ov [sd, x] [sio [10] buf pos, .inst 587 sd] σ) Q := by
  refine OC.def (bs := [.ref x, .int (-1)]) ok (by rw [hK]; exact g541 _) (Binds.of fun s cargs ckw KI ra rk rkv => ?_) fun f' ok' hh => ?_
  · obtain ⟨_, rfl, r⟩ := ra.one
    have : ckw = [] := by cases ckw with | nil => rfl | cons a b => simp at rk
    subst this
    exact ⟨_, .cons r (.cons .int .nil), fun S => by rw [hK]; exact b541 _ S _⟩
  clear ok
  rw [hK] at ok' ⊢
  conv at ok' in (namesOf _) => whnf
  walk_at "in"
  walk_at "ww"
  exact f_lineX hK ok' hn hb (by walk_at "pall") hn (by walk_at "pall") h
theorem lf_readline (hK : C.K = KK C.w.params) (ok : f.Ok (d + 5) ns) {K : List Addr} {O O' : List AO} (hn : K.Nodup) {x sd : Addr} {buf : List Nat} {pos : Nat} (hb : buf.length ≤ 1000000)
    (g : PutAll K O [sd, x] [sio [10] buf pos, .inst 587 sd] O) (hs : [sd, x].Nodup) (p : PutAll K O [sd, x] [sio [10] buf (lineOf buf pos), .inst 587 sd] O') {Q : V → AH → Prop}
    (h : ∀ l, Q (.str l) (ov K O' σ)) : OC C f X ρ (.stat (.ref 541)) [.ref x] [] (ov K O σ) Q := by
  rw [← ov_ov hn g]
  exact f_readline hK ok hs hb fun l => by rw [ov_ov hn p]; exact h l
theorem lf_read_ch (hK : C.K = KK C.w.params) (ok : f.Ok (d + 3) ns) {K : List Addr} {O O' : List AO} (hn : K.Nodup) {x sd : Addr} {buf : List Nat} {pos ch : Nat} (hb : buf.length ≤ 1000000)
    (g : PutAll K O [sd, x] [sio [10] buf pos, .inst 587 sd] O) (hs : [sd, x].Nodup) (hc : buf[pos]? = some ch) (p : PutAll K O [sd, x] [sio [10] buf (pos + 1), .inst 587 sd] O') {Q : V → AH → Prop}
    (h : Q (.str [ch]) (ov K O' σ)) : OC C f X ρ (.stat (.ref 533)) [.ref x, .int 1] [] (ov K O σ) Q := by
  rw [← ov_ov hn g]
  refine f_read1 hK ok hs hb ?_
  obtain ⟨hlt, e⟩ := List.getElem?_eq_some_iff.mp hc
  rw [if_pos hlt, ov_ov hn p, List.drop_eq_getElem_cons hlt, e]
  exact h
theorem lf_read_eof (hK : C.K = KK C.w.params) (ok : f.Ok (d + 3) ns) {K : List Addr} {O : List AO} (hn : K.Nodup) {x sd : Addr} {buf : List Nat} {pos : Nat} (hb : buf.length ≤ 1000000)
    (g : PutAll K O [sd, x] [sio [10] buf pos, .inst 587 sd] O) (hs : [sd, x].Nodup) (hc : buf[pos]? = none) {Q : V → AH → Prop}
    (h : Q (.str []) (ov K O σ)) : OC C f X ρ (.stat (.ref 533)) [.ref x, .int 1] [] (ov K O σ) Q := by
  rw [← ov_ov hn g]
  refine f_read1 hK ok hs hb ?_
  have := List.getElem?_eq_none_iff.mp hc
  rw [if_neg (by omega), ov_ov hn g, List.drop_eq_nil_of_le this]
  exact h
/-- the property -/
theorem f_pc (hK : C.K = KK C.w.params) (ok : f.Ok (d + 1) ns) {K : List Addr} {O : List AO} (hn : K.Nodup) {self dd : Addr} {vs : List V} {p : List Nat} (g1 : GetO K O self (.inst 722 dd)) (g2 : GetO K O dd (fields lexKP vs)) (gf : GetF lexKP vs (.ofString "_punctuation_chars") (.str p)) {Q : V → AH → Prop}
    (h : Q (.str p) (ov K O σ)) : OCc C f X ρ (.stat (.ref 653)) [.ref self] [] (ov K O σ) fun v σ' => (∀ i, v ≠ .stat (.builtin i)) ∧ Q v σ' := by
  refine OCc.def ok (by rw [hK]; exact g653 _) (Binds.p1 (by rw [hK]; exact b653 _)) fun f' ok' hh => ?_
  clear ok
  rw [hK] at ok' ⊢
  conv at ok' in (namesOf _) => whnf
  walk_at "in"
  walk_at "w"
  walk_at "w"
  walk_at "w"
  walk_at "w"
  refine O1.ov_attr hn g1 g2 (own_lex hK) gf rfl ?_
  show (∀ i, V.str p ≠ .stat (.builtin i)) ∧ Q (.str p) (ov K O σ)
  exact ⟨(fun i q => nomatch q), h⟩

end
section
/-- what a lexer is set to (with punctuation_chars) -/
structure Cfg where
  sio : Addr
  infile : V
  posix : Bool
  eof : V
  comm : List Nat
  wordc : List Nat
  ws : List Nat
  split : Bool
  quotes : List Nat
  escape : List Nat
  escq : List Nat
  pb : Addr
  fs : Addr
  source : V
  punct : List Nat
  pc : Addr
/-- what changes while it reads -/
structure Dy where
  st : V
  tok : List Nat
  ln : Int
  pc : Option Nat
  pos : Nat
  q : Bool
  esc : List Nat
/-- what is pushed back: one sign more, where a word was ended by one -/
noncomputable abbrev pcV (pb : List V) : Option Nat → List V
  | none => pb
  | some c => .str [c] :: pb
noncomputable abbrev lexV (c : Cfg) (st : V) (tok : List Nat) (ln : Int) : List V :=
  [.ref c.sio, c.infile, .bool c.posix, c.eof, .str c.comm, .str c.wordc, .str c.ws, .bool c.split, .str c.quotes, .str c.escape, .str c.escq, st, .ref c.pb, .int ln, .int 0, .str tok, .ref c.fs, c.source, .str c.punct]
inductive Out where
  | go (D : Dy)
  | brk (D : Dy)
  | bad
/-- the sign that is read -/
noncomputable def nextC (buf : List Nat) (D : Dy) : Option Nat × Dy := match buf[D.pos]? with
    | some ch => (some ch, { D with pos := D.pos + 1 })
    | none => (none, D)
/-- is there a token to tell? -/
noncomputable abbrev tell (c : Cfg) (D : Dy) (a b : Out) : Out := cond (!D.tok.isEmpty || (c.posix && D.q)) a b
noncomputable def nxS : Option Nat → List Nat
  | none => []
  | some c => [c]
/-- one turn of the loop in read_token -/
noncomputable def turnE (c : Cfg) (D : Dy) : Out := match D.st with
    | .none => .brk { D with tok := ofC [] }
    | .str s => cond (decide (s = ofC [' '])) (.brk { D with st := .none }) (cond (subS s c.quotes) .bad (cond (subS s c.escape) .bad (cond ([V.str (ofC ['a']), V.str (ofC ['c'])].any (isStrV s)) (.brk { D with st := .none }) .bad)))
    | _ => .bad
noncomputable def turnC (c : Cfg) (buf : List Nat) (D : Dy) (ch : Nat) : Out := match D.st with
    | .none => .brk { D with tok := ofC [] }
    | .str s =>
      cond (decide (s = ofC [' ']))
        (cond (subS [ch] c.ws) (tell c D (.brk D) (.go D))
        (cond (subS [ch] c.comm) (.go { D with pos := lineOf buf D.pos, ln := D.ln + 1 })
        (cond (c.posix && subS [ch] c.escape) (.go { D with esc := ofC ['a'], st := .str [ch] })
        (cond (subS [ch] c.wordc) (.go { D with tok := [ch], st := .str (ofC ['a']) })
        (cond (subS [ch] c.punct) (.go { D with tok := [ch], st := .str (ofC ['c']) })
        (cond (subS [ch] c.quotes) (.go { D with tok := cond c.posix D.tok [ch], st := .str [ch] })
        (cond c.split (.go { D with tok := [ch], st := .str (ofC ['a']) })
        (.brk { D with tok := [ch] }))))))))
      (cond (subS s c.quotes)
        (cond (decide ([ch] = s)) (cond c.posix (.go { D with q := true, st := .str (ofC ['a']) }) (.brk { D with q := true, tok := D.tok ++ [ch], st := .str (ofC [' ']) }))
        (cond (c.posix && (subS [ch] c.escape && subS s c.escq)) (.go { D with q := true, esc := s, st := .str [ch] })
        (.go { D with q := true, tok := D.tok ++ [ch] })))
      (cond (subS s c.escape)
        (.go { D with tok := cond (subS D.esc c.quotes && (!decide ([ch] = s) && !decide ([ch] = D.esc))) (D.tok ++ s ++ [ch]) (D.tok ++ [ch]), st := .str D.esc })
      (cond ([V.str (ofC ['a']), V.str (ofC ['c'])].any (isStrV s))
        (cond (subS [ch] c.ws) (tell c D (.brk { D with st := .str (ofC [' ']) }) (.go { D with st := .str (ofC [' ']) }))
        (cond (subS [ch] c.comm)
          (cond c.posix (tell c D (.brk { D with pos := lineOf buf D.pos, ln := D.ln + 1, st := .str (ofC [' ']) }) (.go { D with pos := lineOf buf D.pos, ln := D.ln + 1, st := .str (ofC [' ']) }))
            (.go { D with pos := lineOf buf D.pos, ln := D.ln + 1 }))
        (cond (decide (s = ofC ['c']))
          (cond (subS [ch] c.punct) (.go { D with tok := D.tok ++ [ch] }) .bad)
        (cond (c.posix && subS [ch] c.quotes) (.go { D with st := .str [ch] })
        (cond (c.posix && subS [ch] c.escape) (.go { D with esc := ofC ['a'], st := .str [ch] })
        (cond (subS [ch] c.wordc || (subS [ch] c.quotes || (c.split && !subS [ch] c.punct))) (.go { D with tok := D.tok ++ [ch] })
        (tell c D (.brk { D with pc := some ch, st := .str (ofC [' ']) }) .bad)))))))
      .bad)))
    | _ => .bad
noncomputable def turn (c : Cfg) (buf : List Nat) (D : Dy) : Out := match nextC buf D with
  | (none, D) => turnE c D
  | (some ch, D) => turnC c buf { D with ln := cond (decide ([ch] = ofC ['\n'])) (D.ln + 1) D.ln } ch
/-- the loop -/
noncomputable def loop (c : Cfg) (buf : List Nat) : Nat → Dy → Option Dy
  | 0, _ => none
  | n + 1, D => match turn c buf D with
    | .go D' => loop c buf n D'
    | .brk D' => some D'
    | .bad => none
/-- how a turn goes on -/
noncomputable def fin (c : Cfg) (buf : List Nat) (n : Nat) : Out → Option Dy
  | .go D' => loop c buf n D'
  | .brk D' => some D'
  | .bad => none
theorem loop_succ {c : Cfg} {buf : List Nat} {n : Nat} {D : Dy} : loop c buf (n + 1) D = fin c buf n (turn c buf D) := by
  show (match turn c buf D with | .go D' => loop c buf n D' | .brk D' => some D' | .bad => none) = _
  cases turn c buf D <;> rfl
theorem fc_t {c : Cfg} {buf : List Nat} {n : Nat} {E : Dy} {b : Bool} {x y : Out} (h : b = true) (k : fin c buf n (cond b x y) = some E) : fin c buf n x = some E := by subst h; exact k
theorem fc_f {c : Cfg} {buf : List Nat} {n : Nat} {E : Dy} {b : Bool} {x y : Out} (h : b = false) (k : fin c buf n (cond b x y) = some E) : fin c buf n y = some E := by subst h; exact k
theorem fg_t {c : Cfg} {buf : List Nat} {n : Nat} {E : Dy} {b : Bool} {x y : List Nat} {st : V} {ln : Int} {pc : Option Nat} {pos : Nat} {q : Bool} {esc : List Nat} (h : b = true) (k : fin c buf n (.go ⟨st, cond b x y, ln, pc, pos, q, esc⟩) = some E) : fin c buf n (.go ⟨st, x, ln, pc, pos, q, esc⟩) = some E := by subst h; exact k
theorem fg_f {c : Cfg} {buf : List Nat} {n : Nat} {E : Dy} {b : Bool} {x y : List Nat} {st : V} {ln : Int} {pc : Option Nat} {pos : Nat} {q : Bool} {esc : List Nat} (h : b = false) (k : fin c buf n (.go ⟨st, cond b x y, ln, pc, pos, q, esc⟩) = some E) : fin c buf n (.go ⟨st, y, ln, pc, pos, q, esc⟩) = some E := by subst h; exact k
theorem fr_t {P : Prop} {c : Cfg} {buf : List Nat} {n : Nat} {E : Dy} {b : Bool} {x y : Out} (h : b = true) (g : fin c buf n x = some E → P) (k : fin c buf n (cond b x y) = some E) : P := g (fc_t h k)
theorem fr_f {P : Prop} {c : Cfg} {buf : List Nat} {n : Nat} {E : Dy} {b : Bool} {x y : Out} (h : b = false) (g : fin c buf n y = some E → P) (k : fin c buf n (cond b x y) = some E) : P := g (fc_f h k)
theorem fs_t {P : Prop} {c : Cfg} {buf : List Nat} {n : Nat} {E : Dy} {b : Bool} {x y : List Nat} {st : V} {ln : Int} {pc : Option Nat} {pos : Nat} {q : Bool} {esc : List Nat} (h : b = true) (g : fin c buf n (.go ⟨st, x, ln, pc, pos, q, esc⟩) = some E → P) (k : fin c buf n (.go ⟨st, cond b x y, ln, pc, pos, q, esc⟩) = some E) : P := g (fg_t h k)
theorem fs_f {P : Prop} {c : Cfg} {buf : List Nat} {n : Nat} {E : Dy} {b : Bool} {x y : List Nat} {st : V} {ln : Int} {pc : Option Nat} {pos : Nat} {q : Bool} {esc : List Nat} (h : b = false) (g : fin c buf n (.go ⟨st, y, ln, pc, pos, q, esc⟩) = some E → P) (k : fin c buf n (.go ⟨st, cond b x y, ln, pc, pos, q, esc⟩) = some E) : P := g (fg_f h k)
theorem b_oa_t {x y z : Bool} (h : y = true) (k : (x || z) = true) : (x || (y && z)) = true := by subst h; exact k
theorem b_oa_f {x y z : Bool} (k : (x || z) = false) : (x || (y && z)) = false := by cases x <;> cases y <;> first | rfl | exact k
theorem ok_same {t N n : Nat} (h : t + 2 * (n + 1) ≤ N) : t + 2 * n ≤ N := by omega
theorem ok_one {t N n : Nat} {ch : Nat} (h : t + 2 * (n + 1) ≤ N) : [ch].length + 2 * n ≤ N := by show 1 + _ ≤ _; omega
theorem ok_add {tok : List Nat} {N n : Nat} {ch : Nat} (h : tok.length + 2 * (n + 1) ≤ N) : (tok ++ [ch]).length + 2 * n ≤ N := by rw [List.length_append]; show _ + 1 + _ ≤ _; omega
theorem ok_add2 {tok s : List Nat} {N n : Nat} {ch : Nat} (h : tok.length + 2 * (n + 1) ≤ N) (hs : s.length ≤ 1) : (tok ++ s ++ [ch]).length + 2 * n ≤ N := by rw [List.length_append, List.length_append]; show _ + 1 + _ ≤ _; omega
noncomputable def resV (c : Cfg) (E : Dy) : V := cond (c.posix && (!E.q && decide (E.tok = ofC []))) .none (.str E.tok)
theorem rv_t {b : Bool} {x y : V} {Q : V → AH → Prop} {τ : AH} (e : b = true) (h : Q (cond b x y) τ) : Q x τ := by subst e; exact h
theorem rv_f {b : Bool} {x y : V} {Q : V → AH → Prop} {τ : AH} (e : b = false) (h : Q (cond b x y) τ) : Q y τ := by subst e; exact h
variable {C : Cx} {f : Fx} {ns : List (PySem.Str × NameKind)} {d : Nat} {X : XT} {ρ : Loc} {σ : AH}
local macro_rules | `(tactic| walk_at "fns") => `(tactic| first
  | ((with_reducible apply lf_read_ch); (focus (walk_at "asm")); (focus (walk_at "asm")); (focus (walk_at "asm")); (focus (walk_at "asm")); (focus (walk_at "pall")); (focus (walk_at "nd")); (focus (walk_at "asm")); (focus (walk_at "pall")))
  | ((with_reducible apply lf_read_eof); (focus (walk_at "asm")); (focus (walk_at "asm")); (focus (walk_at "asm")); (focus (walk_at "asm")); (focus (walk_at "pall")); (focus (walk_at "nd")); (focus (walk_at "asm")))
  | ((with_reducible apply lf_readline); (focus (walk_at "asm")); (focus (walk_at "asm")); (focus (walk_at "asm")); (focus (walk_at "asm")); (focus (walk_at "pall")); (focus (walk_at "nd")); (focus (walk_at "pall")); intro _))
local macro_rules | `(tactic| walk_at "pfns") => `(tactic| ((with_reducible apply f_pc); (focus (walk_at "asm")); (focus ((with_reducible apply Fx.Ok.in1); walk_at "asm")); (focus (walk_at "asm")); (focus (walk_at "gGetO")); (focus (walk_at "gGetO")); (focus (walk_at "gGetF"))))
local macro_rules | `(tactic| walk_at "cond") => `(tactic| (first | (simp only [pcV, List.isEmpty_cons, List.isEmpty_nil, Bool.not_true, Bool.not_false]; done) | (simp only [pcV, List.isEmpty_cons, List.isEmpty_nil, Bool.not_true, Bool.not_false, *]; done)))
/-- where the lexer lies -/
noncomputable abbrev lexO (c : Cfg) (dd : Addr) (D : Dy) (sd : Addr) (buf : List Nat) (pb : List V) : List AO := [.deque (pcV pb D.pc), sio [10] buf D.pos, .inst 587 sd, fields lexKP (lexV c D.st D.tok D.ln), .inst 722 dd]
noncomputable abbrev lexA (c : Cfg) (self dd sd : Addr) : List Addr := [c.pb, sd, c.sio, dd, self]
local macro_rules | `(tactic| walk_at "ite") => `(tactic| first | with_reducible refine ite_t ?_ | with_reducible refine ite_f ?_ | with_reducible refine and_last ?_ | with_reducible refine or_last ?_ | with_reducible refine ite_e (c := true) (by with_reducible assumption) (ite_t ?_) | with_reducible refine ite_e (c := false) (by with_reducible assumption) (ite_f ?_) | with_reducible refine ite_e (c := true) (by walk_at "cond") (ite_t ?_) | with_reducible refine ite_e (c := false) (by walk_at "cond") (ite_f ?_) | ((with_reducible apply and_merge); (focus (intro Q' hQ; walk_at "ww"; exact hQ))) | ((with_reducible apply or_merge); (focus (intro Q' hQ; walk_at "ww"; exact hQ))))
local macro_rules | `(tactic| walk_at "bt") => `(tactic| first | with_reducible assumption | ((with_reducible apply b_and_t); (focus (walk_at "bt")); walk_at "bt") | ((with_reducible apply b_and_f1); walk_at "bt") | ((with_reducible apply b_and_f2); walk_at "bt") | ((with_reducible apply b_or_t1); walk_at "bt") | ((with_reducible apply b_or_t2); walk_at "bt") | ((with_reducible apply b_or_f); (focus (walk_at "bt")); walk_at "bt") | ((with_reducible apply b_oa_t); (focus (with_reducible assumption)); (with_reducible assumption)) | ((with_reducible apply b_oa_f); (with_reducible assumption)) | ((with_reducible apply b_not_t); walk_at "bt") | ((with_reducible apply b_not_f); walk_at "bt"))
local macro_rules | `(tactic| walk_at "okd") => `(tactic| (refine ⟨?_, ?_, ?_⟩; (focus (first | exact ok_same (by assumption) | exact ok_one (by assumption) | exact ok_add (by assumption) | exact ok_add2 (by assumption) (by assumption))); (focus (first | assumption | exact Nat.le_refl 1)); first | assumption | exact Nat.le_refl 1 | exact trivial))
local macro_rules | `(tactic| walk_at "lfB") => `(tactic| (simp only [*, tell, cond_true, cond_false, Bool.true_and, Bool.false_and, Bool.and_true, Bool.and_false, Bool.or_true, Bool.or_false, Bool.true_or, Bool.false_or, Bool.not_true, Bool.not_false] at hl))
noncomputable def okD (n : Nat) (D : Dy) : Prop := D.tok.length + 2 * n ≤ 4000000 ∧ D.esc.length ≤ 1 ∧ (match D.st with | .str s => s.length ≤ 1 | _ => True)
/-- ahead of a turn -/
inductive RtI (c : Cfg) (self dd sd : Addr) (buf : List Nat) (pb : List V) (σ : AH) (E : Dy) (n : Nat) : Loc → AH → Prop
  | mk (D : Dy) (a : Option V) (hk : okD n D) (hpc : D.pc = none) (hl : loop c buf n D = some E) : RtI c self dd sd buf pb σ E n [some (V.ref self), some (.bool (Dy.q D)), some (.str D.esc), a, none, none, none, none] (ov (lexA c self dd sd) (lexO c dd D sd buf pb) σ)
/-- behind the loop -/
inductive RtE (c : Cfg) (self dd sd : Addr) (buf : List Nat) (pb : List V) (σ : AH) (E : Dy) : Fl → Loc → AH → Prop
  | mk (a : Option V) (q : Bool) (e : E.q = q) (esc : List Nat) (τ : AH) (h : τ = ov (lexA c self dd sd) (lexO c dd E sd buf pb) σ) : RtE c self dd sd buf pb σ E .next [some (V.ref self), some (.bool q), some (.str esc), a, none, none, none, none] τ
theorem wh_go {c : Cfg} {self dd sd : Addr} {buf : List Nat} {pb : List V} {σ : AH} {E : Dy} {n : Nat} {ρ : Loc} {τ : AH} (h : RtI c self dd sd buf pb σ E n ρ τ) : kWh (RtI c self dd sd buf pb σ E) (n + 1) ρ τ := ⟨n, Nat.lt_succ_self n, h⟩
theorem f_read_token (hK : C.K = KK C.w.params) (ok : f.Ok (d + 8) ns) {c : Cfg} {self dd sd : Addr} {buf : List Nat} (hn : (lexA c self dd sd).Nodup) (hb : buf.length ≤ 1000000) (hp : c.punct.isEmpty = true) (hpl : c.punct.length ≤ 16777216) {pb : List V} (hpb : pb.length ≤ 1000000)
    {D E : Dy} {n : Nat} (hq : D.q = false) (hpc : D.pc = none) (he : D.esc = [32]) (hk : okD n D) (hl : loop c buf n D = some E) {Q : V → AH → Prop}
    (h : Q (resV c E) (ov (lexA c self dd sd) (lexO c dd { E with tok := [] } sd buf pb) σ)) :
    OC C f X ρ (.stat (.ref 690)) [.ref self] [] (ov (lexA c self dd sd) (lexO c dd D sd buf pb) σ) Q := by
  refine OC.def ok (by rw [hK]; exact g690 _) (Binds.p1 (by rw [hK]; exact b690 _)) fun f' ok' hh => ?_
  clear ok
  rw [hK] at ok' ⊢
  conv at ok' in (namesOf _) => whnf
  walk_at "in"
  walk_at "ww"
  refine Ex.mono (Q := RtE c self dd sd buf pb σ E) ?_ ?_
  rotate_left
  · rintro _ _ _ ⟨a, _, rfl, esc, _, rfl⟩
    clear hl hk hq he
    walk_at "ww"
    all_goals (show Q _ (ov (lexA c self dd sd) (lexO c dd { E with tok := [] } sd buf pb) σ); first | exact rv_t (by assumption) h | exact rv_f (by assumption) h)
  refine Ex.while XOk.no (RtI c self dd sd buf pb σ E) ?_ n (by have := RtI.mk (self := self) (dd := dd) (sd := sd) (pb := pb) (σ := σ) D none hk hpc hl; rw [hq, he] at this; exact this)
  clear hl hk hq he hpc D n
  rintro n _ _ ⟨⟨st, tok, ln, pc, pos, q, esc⟩, a, ⟨hk1, hk2, hk3⟩, hpc, hl⟩
  cases hpc
  cases n with
  | zero => cases hl
  | succ n =>
  rw [loop_succ] at hl
  try dsimp only at hk1 hk2 hk3
  walk_at "w"
  walk_at "w"
  walk_at "w"
  walk_at "w"
  refine Ex.cons (Ex.mono (Q := fun fl ρ₁ σ₁ => fl = .next ∧ ∃ (nx : Option Nat) (pos' : Nat), nextC buf ⟨st, tok, ln, none, pos, q, esc⟩ = (nx, ⟨st, tok, ln, none, pos', q, esc⟩) ∧
    ρ₁ = [some (V.ref self), some (.bool q), some (.str esc), some (.str (nxS nx)), none, none, none, none] ∧ σ₁ = ov (lexA c self dd sd) (lexO c dd ⟨st, tok, ln, none, pos', q, esc⟩ sd buf pb) σ) ?_ ?_)
  · cases hg : buf[pos]? with
    | none =>
        walk_at "ww"
        all_goals exact ⟨rfl, none, pos, by simp [nextC, hg], rfl, rfl⟩
    | some ch =>
        walk_at "ww"
        all_goals exact ⟨rfl, some ch, pos + 1, by simp [nextC, hg], rfl, rfl⟩
  rintro _ _ _ ⟨rfl, nx, pos', hnx, rfl, rfl⟩
  unfold turn at hl
  rw [hnx] at hl
  clear hnx pos a
  try dsimp only
  try dsimp only at hl
  cases nx with
  | none =>
    try dsimp only [nxS]
    try dsimp only at hl
    cases st with
    | none =>
      (try unfold turnE at hl); (try unfold turnC at hl); (try dsimp only [tell] at hl)
      walk_at "ww"
      all_goals (((try dsimp only at *); (revert hl); (repeat (first | ((with_reducible refine fr_t ?_ ?_); (focus (walk_at "bt"))) | ((with_reducible refine fr_f ?_ ?_); (focus (walk_at "bt"))) | ((with_reducible refine fs_t ?_ ?_); (focus (walk_at "bt"))) | ((with_reducible refine fs_f ?_ ?_); (focus (walk_at "bt"))))); intro hl; first | (cases hl; done) | (cases Option.some.inj hl; exact RtE.mk _ _ rfl _ _ rfl) | exact wh_go (RtI.mk ⟨_, _, _, none, _, _, _⟩ _ (by walk_at "okd") rfl hl) | exact wh_go (RtI.mk ⟨_, _, _, some _, _, _, _⟩ _ (by walk_at "okd") rfl hl)))
    | str s =>
      (try unfold turnE at hl); (try unfold turnC at hl); (try dsimp only [tell] at hl)
      walk_at "ww"
      all_goals (((try dsimp only at *); (revert hl); (repeat (first | ((with_reducible refine fr_t ?_ ?_); (focus (walk_at "bt"))) | ((with_reducible refine fr_f ?_ ?_); (focus (walk_at "bt"))) | ((with_reducible refine fs_t ?_ ?_); (focus (walk_at "bt"))) | ((with_reducible refine fs_f ?_ ?_); (focus (walk_at "bt"))))); intro hl; first | (cases hl; done) | (cases Option.some.inj hl; exact RtE.mk _ _ rfl _ _ rfl) | exact wh_go (RtI.mk ⟨_, _, _, none, _, _, _⟩ _ (by walk_at "okd") rfl hl) | exact wh_go (RtI.mk ⟨_, _, _, some _, _, _, _⟩ _ (by walk_at "okd") rfl hl)))
    | _ => cases hl
  | some ch =>
    try dsimp only [nxS]
    try dsimp only at hl
    refine Ex.cons (Ex.mono (Q := fun fl ρ₁ σ₁ => fl = .next ∧
      ρ₁ = [some (V.ref self), some (.bool q), some (.str esc), some (.str [ch]), none, none, none, none] ∧ σ₁ = ov (lexA c self dd sd) (lexO c dd ⟨st, tok, cond (decide ([ch] = ofC ['\n'])) (ln + 1) ln, none, pos', q, esc⟩ sd buf pb) σ) ?_ ?_)
    · walk_at "ww"
      · rename_i e; rw [e]; exact ⟨rfl, rfl, rfl⟩
      · rename_i e; rw [e]; exact ⟨rfl, rfl, rfl⟩
    rintro _ _ _ ⟨rfl, rfl, rfl⟩
    generalize cond (decide ([ch] = ofC ['\n'])) (ln + 1) ln = ln' at hl ⊢
    try dsimp only
    cases st with
    | none =>
      (try unfold turnE at hl); (try unfold turnC at hl); (try dsimp only [tell] at hl)
      walk_at "ww"
      all_goals (((try dsimp only at *); (revert hl); (repeat (first | ((with_reducible refine fr_t ?_ ?_); (focus (walk_at "bt"))) | ((with_reducible refine fr_f ?_ ?_); (focus (walk_at "bt"))) | ((with_reducible refine fs_t ?_ ?_); (focus (walk_at "bt"))) | ((with_reducible refine fs_f ?_ ?_); (focus (walk_at "bt"))))); intro hl; first | (cases hl; done) | (cases Option.some.inj hl; exact RtE.mk _ _ rfl _ _ rfl) | exact wh_go (RtI.mk ⟨_, _, _, none, _, _, _⟩ _ (by walk_at "okd") rfl hl) | exact wh_go (RtI.mk ⟨_, _, _, some _, _, _, _⟩ _ (by walk_at "okd") rfl hl)))
    | str s =>
      (try unfold turnE at hl); (try unfold turnC at hl); (try dsimp only [tell] at hl)
      walk_at "ww"
      all_goals (((try dsimp only at *); (revert hl); (repeat (first | ((with_reducible refine fr_t ?_ ?_); (focus (walk_at "bt"))) | ((with_reducible refine fr_f ?_ ?_); (focus (walk_at "bt"))) | ((with_reducible refine fs_t ?_ ?_); (focus (walk_at "bt"))) | ((with_reducible refine fs_f ?_ ?_); (focus (walk_at "bt"))))); intro hl; first | (cases hl; done) | (cases Option.some.inj hl; exact RtE.mk _ _ rfl _ _ rfl) | exact wh_go (RtI.mk ⟨_, _, _, none, _, _, _⟩ _ (by walk_at "okd") rfl hl) | exact wh_go (RtI.mk ⟨_, _, _, some _, _, _, _⟩ _ (by walk_at "okd") rfl hl)))
    | _ => cases hl

end
section
variable {C : Cx} {f : Fx} {ns : List (PySem.Str × NameKind)} {d : Nat} {X : XT} {ρ : Loc} {σ : AH}
local macro_rules | `(tactic| walk_at "cond") => `(tactic| (first | (simp only [pcV, List.isEmpty_cons, List.isEmpty_nil, Bool.not_true, Bool.not_false]; done)))
theorem lf_read_token (hK : C.K = KK C.w.params) (ok : f.Ok (d + 8) ns) {K : List Addr} {O O' : List AO} (hN : K.Nodup) {c : Cfg} {self dd sd : Addr} {buf : List Nat} (hb : buf.length ≤ 1000000) (hp : c.punct.isEmpty = true) (hpl : c.punct.length ≤ 16777216) {pb : List V} (hpb : pb.length ≤ 1000000)
    {D E : Dy} {n : Nat} (hq : D.q = false) (hpc : D.pc = none) (he : D.esc = [32]) (hk : okD n D) (hl : loop c buf n D = some E)
    (g : PutAll K O (lexA c self dd sd) (lexO c dd D sd buf pb) O) (hn : (lexA c self dd sd).Nodup) (p : PutAll K O (lexA c self dd sd) (lexO c dd { E with tok := [] } sd buf pb) O') {Q : V → AH → Prop}
    (h : Q (resV c E) (ov K O' σ)) : OC C f X ρ (.stat (.ref 690)) [.ref self] [] (ov K O σ) Q := by
  rw [← ov_ov hN g]
  exact f_read_token hK ok hn hb hp hpl hpb hq hpc he hk hl (by rw [ov_ov hN p]; exact h)
noncomputable abbrev lexB (c : Cfg) (self dd sd : Addr) : List Addr := [c.fs, c.pb, sd, c.sio, dd, self]
noncomputable abbrev lexP (c : Cfg) (dd : Addr) (D : Dy) (sd : Addr) (buf : List Nat) (pb : List V) : List AO := [.deque [], .deque (pcV pb D.pc), sio [10] buf D.pos, .inst 587 sd, fields lexKP (lexV c D.st D.tok D.ln), .inst 722 dd]
/-- posix=True, no source, an empty stack of streams, nothing pushed -/
theorem f_get_text (hK : C.K = KK C.w.params) (ok : f.Ok (d + 9) ns) {c : Cfg} {self dd sd : Addr} {buf : List Nat} (hn : (lexB c self dd sd).Nodup) (hb : buf.length ≤ 1000000) (hp : c.punct.isEmpty = true) (hpl : c.punct.length ≤ 16777216)
    {D E : Dy} {n : Nat} (hq : D.q = false) (hpc : D.pc = none) (he : D.esc = [32]) (hk : okD n D) (hl : loop c buf n D = some E) (hpo : c.posix = true) (hso : c.source = .none) (heo : c.eof = .none) {Q : V → AH → Prop}
    (h : Q (resV c E) (ov (lexB c self dd sd) (lexP c dd { E with tok := [] } sd buf []) σ)) : OC C f X ρ (.stat (.ref 683)) [.ref self] [] (ov (lexB c self dd sd) (lexP c dd D sd buf []) σ) Q := by
  obtain ⟨sio', infile, posix, eof, comm, wordc, ws, split, quotes, escape, escq, pb, fs, source, punct, pc⟩ := c
  obtain ⟨st, tok, ln, dpc, pos, q, esc⟩ := D
  simp only at hpo hso heo hpc
  subst hpo hso heo hpc
  refine OC.def ok (by rw [hK]; exact g683 _) (Binds.p1 (by rw [hK]; exact b683 _)) fun f' ok' hh => ?_
  clear ok
  rw [hK] at ok' ⊢
  conv at ok' in (namesOf _) => whnf
  walk_at "in"
  walk_at "ww"
  refine lf_read_token (c := ⟨sio', infile, true, .none, comm, wordc, ws, split, quotes, escape, escq, pb, fs, .none, punct, pc⟩) (self := self) (dd := dd) (sd := sd) (pb := []) (D := ⟨st, tok, ln, none, pos, q, esc⟩) (O' := lexP ⟨sio', infile, true, .none, comm, wordc, ws, split, quotes, escape, escq, pb, fs, .none, punct, pc⟩ dd { E with tok := [] } sd buf []) hK ok' hn hb hp hpl (by decide) hq rfl he hk hl ?_ (by walk_at "nd") ?_ ?_
  · walk_at "pall"
  · walk_at "pall"
  cases hr : (true && (!E.q && decide (E.tok = ofC []))) with
  | true =>
    have e : resV (⟨sio', infile, true, .none, comm, wordc, ws, split, quotes, escape, escq, pb, fs, .none, punct, pc⟩ : Cfg) E = .none := by show cond (true && (!E.q && decide (E.tok = ofC []))) _ _ = _; rw [hr]; rfl
    rw [e] at h ⊢
    walk_at "ww"
    refine Ex.while XOk.no (fun n ρ' σ' => ρ' = [some (V.ref self), none, some V.none, none, none, none, none, none] ∧ σ' = ov (lexB ⟨sio', infile, true, .none, comm, wordc, ws, split, quotes, escape, escq, pb, fs, .none, punct, pc⟩ self dd sd) (lexP ⟨sio', infile, true, .none, comm, wordc, ws, split, quotes, escape, escq, pb, fs, .none, punct, pc⟩ dd { E with tok := [] } sd buf []) σ) ?_ 0 ⟨rfl, rfl⟩
    rintro n _ _ ⟨rfl, rfl⟩
    walk_at "ww"
    exact h
  | false =>
    have e : resV (⟨sio', infile, true, .none, comm, wordc, ws, split, quotes, escape, escq, pb, fs, .none, punct, pc⟩ : Cfg) E = .str E.tok := by show cond (true && (!E.q && decide (E.tok = ofC []))) _ _ = _; rw [hr]; rfl
    rw [e] at h ⊢
    walk_at "ww"
    refine Ex.while XOk.no (fun n ρ' σ' => ρ' = [some (V.ref self), none, some (V.str E.tok), none, none, none, none, none] ∧ σ' = ov (lexB ⟨sio', infile, true, .none, comm, wordc, ws, split, quotes, escape, escq, pb, fs, .none, punct, pc⟩ self dd sd) (lexP ⟨sio', infile, true, .none, comm, wordc, ws, split, quotes, escape, escq, pb, fs, .none, punct, pc⟩ dd { E with tok := [] } sd buf []) σ) ?_ 0 ⟨rfl, rfl⟩
    rintro n _ _ ⟨rfl, rfl⟩
    walk_at "ww"
    exact h

end
section
variable {C : Cx} {f : Fx} {ns : List (PySem.Str × NameKind)} {d : Nat} {X : XT} {ρ : Loc} {σ : AH} {K : List Addr} {O O' : List AO}
local macro_rules | `(tactic| walk_at "globs") => `(tactic| first | with_reducible exact gl_BytesIO (by walk_at "asm") | with_reducible exact gl_object (by walk_at "asm"))
local macro_rules | `(tactic| walk_at "meth") => `(tactic| with_reducible exact m_translated (by walk_at "asm"))
local macro_rules | `(tactic| walk_at "keeps") => `(tactic| with_reducible exact kp_m_translated (by walk_at "asm"))
local macro_rules | `(tactic| walk_at "o2") => `(tactic| first | with_reducible refine O2.isnot_stat (in_587_340 (by walk_at "asm")) ?_ | with_reducible refine O2.isnot_stat (in_587_587 (by walk_at "asm")) ?_)
local macro_rules | `(tactic| walk_at "om") => `(tactic| with_reducible refine om_obj_new (by walk_at "asm") ?_)
theorem f_new (hK : C.K = KK C.w.params) (ok : f.Ok (d + 1) ns) (hn : K.Nodup) (hl : K.length = O.length) {a : V} {Q : V → AH → Prop} (h : ∀ x dx, (dx :: x :: K).Nodup → Q (.ref x) (ov (dx :: x :: K) (fields sioK [] :: .inst 587 dx :: O) σ)) :
    OCc C f X ρ (.stat (.ref 80)) [.stat (.ref 587), a] [] (ov K O σ) Q := by
  refine OCc.defE ok (by rw [hK]; exact g80 _) (BindsE.star1 fun S x y ca => by rw [hK]; exact bs80 _ S x y ca) fun f' bs hB _ ok' hh => ?_
  obtain ⟨y, rfl⟩ := hB
  clear ok
  rw [hK] at ok' ⊢
  conv at ok' in (namesOf _) => whnf
  walk_at "in"
  walk_at "ww"
  refine OC.ov_obj_new (ks := sioK) hn hl (by rw [hK]; exact nw587 _) (by rw [hK]; exact ck587 _) (by rw [hK]; exact mh587 _) fun x dx n => ?_
  exact h x dx n
theorem f_translated (hK : C.K = KK C.w.params) (ok : f.Ok (d + 1) ns) {x sd : Addr} {vs : List V} {l : List Nat} (hn : [sd, x].Nodup) {Q : V → AH → Prop} (h : Q (.str l) (ov [sd, x] [fields sioK (.str [10] :: vs), .inst 587 sd] σ)) :
    OC C f X ρ (.stat (.ref 364)) [.ref x, .str l] [] (ov [sd, x] [fields sioK (.str [10] :: vs), .inst 587 sd] σ) Q := by
  refine OC.def ok (by rw [hK]; exact g364 _) (Binds.p2 (by rw [hK]; exact b364 _)) fun f' ok' hh => ?_
  clear ok
  rw [hK] at ok' ⊢
  conv at ok' in (namesOf _) => whnf
  walk_at "in"
  walk_at "ww"
  exact h
theorem lf_translated (hK : C.K = KK C.w.params) (ok : f.Ok (d + 1) ns) (hn : K.Nodup) {x sd : Addr} {vs : List V} {l : List Nat} (g : PutAll K O [sd, x] [fields sioK (.str [10] :: vs), .inst 587 sd] O) (hs : [sd, x].Nodup) {Q : V → AH → Prop} (h : Q (.str l) (ov K O σ)) :
    OC C f X ρ (.stat (.ref 364)) [.ref x, .str l] [] (ov K O σ) Q := OC.lift hn (fun _ _ h => f_translated hK ok hs h) g g h
local macro_rules | `(tactic| walk_at "fns") => `(tactic| ((with_reducible apply lf_translated); (focus (walk_at "asm")); (focus (walk_at "asm")); (focus (walk_at "asm")); (focus (walk_at "pall")); (focus (walk_at "nd"))))
theorem f_sinit (hK : C.K = KK C.w.params) (ok : f.Ok (d + 2) ns) {x sd : Addr} {l : List Nat} (hn : [sd, x].Nodup) {Q : V → AH → Prop} (h : Q .none (ov [sd, x] [sio [10] l 0, .inst 587 sd] σ)) :
    OCc C f X ρ (.stat (.ref 357)) [.ref x, .str l] [] (ov [sd, x] [fields sioK [], .inst 587 sd] σ) Q := by
  refine OCc.def (bs := [.ref x, .str l, .str [10]]) ok (by rw [hK]; exact g357 _) (Binds.of fun s cargs ckw KI ra rk rkv => ?_) fun f' ok' hh => ?_
  · obtain ⟨_, _, rfl, r, r2⟩ := ra.two
    have : ckw = [] := by cases ckw with | nil => rfl | cons a b => simp at rk
    subst this
    exact ⟨_, .cons r (.cons r2 (.cons .str .nil)), fun S => by rw [hK]; exact b357 _ S _ _⟩
  clear ok
  rw [hK] at ok' ⊢
  conv at ok' in (namesOf _) => whnf
  walk_at "in"
  walk_at "ww"
  exact h
/-- StringIO(text) -/
theorem f_StringIO (hK : C.K = KK C.w.params) (ok : f.Ok (d + 3) ns) (hn : K.Nodup) (hl : K.length = O.length) {l : List Nat} {Q : V → AH → Prop} (h : ∀ x sd, (sd :: x :: K).Nodup → Q (.ref x) (ov (sd :: x :: K) (sio [10] l 0 :: .inst 587 sd :: O) σ)) :
    OC C f X ρ (.stat (.ref 587)) [.str l] [] (ov K O σ) Q := OCc.oc <| by
  refine OCc.ov_makeN (ks := sioK) ok (by rw [hK]; exact mk587 _) (fun S => by rw [hK]; exact md587 _ S) (fun f' ok' hh => ?_) fun f' x dx ok' hh n => ?_
  · exact f_new hK ok' hn hl fun x dx n => ⟨x, dx, rfl, n, rfl⟩
  · exact f_sinit (σ := ov K O σ) hK ok' (n.sublist (by simp)) ⟨rfl, h x dx n⟩

end
section
variable {C : Cx} {f : Fx} {ns : List (PySem.Str × NameKind)} {d : Nat} {X : XT} {ρ : Loc} {σ : AH} {K : List Addr} {O O' : List AO}
local macro_rules | `(tactic| walk_at "len") => `(tactic| first | rfl | (simp only [List.length_cons]; omega))
local macro_rules | `(tactic| walk_at "globs") => `(tactic| first | with_reducible exact gl_deque (by walk_at "asm"))
local macro_rules | `(tactic| walk_at "fns") => `(tactic| first
  | ((with_reducible apply f_StringIO); (focus (walk_at "asm")); (focus (walk_at "asm")); (focus (walk_at "asm")); (focus (walk_at "len")); intro _ _ _)
  | ((with_reducible apply OC.deque); (focus (walk_at "asm")); (focus (walk_at "len")); intro _ _))
local macro_rules | `(tactic| walk_at "o2") => `(tactic| with_reducible refine O2.is_bool_bool ?_)
local macro_rules | `(tactic| walk_at "ev") => `(tactic| ((with_reducible apply Ev.ov_fromkeys); (focus (walk_at "asm")); (focus (walk_at "asm")); (focus (walk_at "gGlobAt")); (focus (walk_at "glob")); (focus (walk_at "gGetAt")); (focus (walk_at "sz")); (focus (exact big (by walk_at "asm"))); (focus (with_unfolding_all rfl)); (focus (with_unfolding_all rfl)); (focus (walk_at "asm")); (focus (walk_at "len")); intro _ _ _ _))
local macro_rules | `(tactic| walk_at "om") => `(tactic| first | with_reducible refine OM.maketrans ?_ | with_reducible refine OM.str slot_tr type_tr ?_)
local macro_rules | `(tactic| walk_at "oc") => `(tactic| first
  | with_reducible refine OC.cat0 ?_
  | ((with_reducible apply OC.ov_maketrans); (focus (walk_at "asm")); (focus (walk_at "len")); (focus (walk_at "gGetO")); (focus (walk_at "asm")); (focus (walk_at "sz")); (focus (exact big (by walk_at "asm"))); intro _ _ _ _)
  | ((with_reducible apply OC.ov_translateA); (focus (walk_at "asm")); (focus (walk_at "asm")); (focus (walk_at "gGetO")); (focus (walk_at "asm")); (focus (walk_at "sz")); (focus (decide +kernel)); (focus (decide +kernel))))
/-- the letters of a word -/
noncomputable def wc04 : List Nat := ofC ['a', 'b', 'c', 'd', 'f', 'e', 'g', 'h', 'i', 'j', 'k', 'l', 'm', 'n', 'o', 'p', 'q', 'r', 's', 't', 'u', 'v', 'w', 'x', 'y', 'z', 'A', 'B', 'C', 'D', 'E', 'F', 'G', 'H', 'I', 'J', 'K', 'L', 'M', 'N', 'O', 'P', 'Q', 'R', 'S', 'T', 'U', 'V', 'W', 'X', 'Y', 'Z', '0', '1', '2', '3', '4', '5', '6', '7', '8', '9', '_'] ++ ofC ['ß', 'à', 'á', 'â', 'ã', 'ä', 'å', 'æ', 'ç', 'è', 'é', 'ê', 'ë', 'ì', 'í', 'î', 'ï', 'ð', 'ñ', 'ò', 'ó', 'ô', 'õ', 'ö', 'ø', 'ù', 'ú', 'û', 'ü', 'ý', 'þ', 'ÿ', 'À', 'Á', 'Â', 'Ã', 'Ä', 'Å', 'Æ', 'Ç', 'È', 'É', 'Ê', 'Ë', 'Ì', 'Í', 'Î', 'Ï', 'Ð', 'Ñ', 'Ò', 'Ó', 'Ô', 'Õ', 'Ö', 'Ø', 'Ù', 'Ú', 'Û', 'Ü', 'Ý', 'Þ']
/-- a lexer as it is made -/
noncomputable abbrev c04 (sio pb fs : Addr) : Cfg := { sio, infile := .none, posix := true, eof := .none, comm := [35], wordc := wc04, ws := [32, 9, 13, 10], split := false, quotes := [39, 34], escape := [92], escq := [34], pb, fs, source := .none, punct := [], pc := 0 }
noncomputable abbrev D0 : Dy := { st := .str [32], tok := [], ln := 1, pc := none, pos := 0, q := false, esc := [32] }
theorem f_init (hK : C.K = KK C.w.params) (ok : f.Ok (d + 4) ns) (hA : f.A.handled = none) {self dd : Addr} {buf : List Nat} (hn : (dd :: self :: K).Nodup) (hl : K.length = O.length) (hb : buf.length ≤ 1000000) {Q : V → AH → Prop}
    (h : ∀ fs pb sd sio, (fs :: pb :: sd :: sio :: dd :: self :: K).Nodup → Q .none (ov (fs :: pb :: sd :: sio :: dd :: self :: K) (lexP (c04 sio pb fs) dd D0 sd buf [] ++ O) σ)) :
    OCc C f X ρ (.stat (.ref 646)) [.ref self, .str buf] [("posix", .bool true)] (ov (dd :: self :: K) (fields lexKP [] :: .inst 722 dd :: O) σ) Q := by
  refine OCc.def (bs := [.ref self, .str buf, .none, .bool true, .bool false]) ok (by rw [hK]; exact g646 _) (Binds.of fun s cargs ckw KI ra rk rkv => ?_) fun f' ok' hh => ?_
  · obtain ⟨_, _, rfl, r, r2⟩ := ra.two
    obtain ⟨v1, e, r3⟩ := rkv.one
    cases r3.boolI
    obtain rfl := kw_zip rk e
    exact ⟨_, .cons r (.cons r2 (.cons .none (.cons .bool (.cons .bool .nil)))), fun S => by rw [hK]; exact b646 _ S _ _⟩
  clear ok
  have hA' := hh hA
  rw [hK] at ok' ⊢
  conv at ok' in (namesOf _) => whnf
  walk_at "in"
  walk_at "ww"
  rename_i x sd n1 pb n2 fs n3
  exact h fs pb sd x n3
/-- shlex(text, posix=True) -/
theorem f_shlex (hK : C.K = KK C.w.params) (ok : f.Ok (d + 5) ns) (hA : f.A.handled = none) {buf : List Nat} (hn : K.Nodup) (hl : K.length = O.length) (hb : buf.length ≤ 1000000) {Q : V → AH → Prop}
    (h : ∀ self dd fs pb sd sio, (fs :: pb :: sd :: sio :: dd :: self :: K).Nodup → Q (.ref self) (ov (fs :: pb :: sd :: sio :: dd :: self :: K) (lexP (c04 sio pb fs) dd D0 sd buf [] ++ O) σ)) :
    OC C f X ρ (.stat (.ref 722)) [.str buf] [("posix", .bool true)] (ov K O σ) Q := OCc.oc <|
  OCc.ov_makeK (ks := lexKP) ok (mk722 hK) (isR.eq (mi722 hK)) (beq_iff_eq.mp (mf722 hK)) hn hl fun f' x dx ok' hh n => f_init hK ok' (hh hA) n hl hb fun fs pb sd sio n => ⟨rfl, h x dx fs pb sd sio n⟩

end
section
variable {C : Cx} {f : Fx} {ns : List (PySem.Str × NameKind)} {d : Nat} {X : XT} {ρ : Loc} {σ : AH} {K : List Addr} {O O' : List AO}
local macro_rules | `(tactic| walk_at "o2") => `(tactic| ((with_reducible apply O2.pow_int); (focus (decide)); (focus (decide))))
/-- figures to the base 18 -/
noncomputable def figV (vs : List V) : Prop := ∃ fs : List Nat, (∀ n ∈ fs, n < 18) ∧ vs = fs.map fun n : Nat => V.int n
theorem figV_snoc {vs : List V} {rest : Int} (h : figV vs) : figV (vs ++ [V.int (rest.fmod 18)]) := by
  obtain ⟨fs, h1, rfl⟩ := h
  have h3 : 0 ≤ rest.fmod 18 := Int.fmod_nonneg_of_pos _ (by decide)
  have h2 : rest.fmod 18 < 18 := Int.fmod_lt_of_pos _ (by decide)
  refine ⟨fs ++ [(rest.fmod 18).toNat], fun n hn => ?_, ?_⟩
  · rcases List.mem_append.mp hn with q | q
    · exact h1 n q
    · rw [List.mem_singleton] at q
      omega
  · rw [List.map_append, List.map_cons, List.map_nil, Int.toNat_of_nonneg h3]
/-- what is left of a number -/
inductive DgI (L a b : Addr) (x : Int) (items ws : List V) (K : List Addr) (O : List AO) (σ : AH) (k n : Nat) : Loc → AH → Prop
  | mk (v : Int) (vs : List V) (h0 : 0 ≤ v) (h1 : v < 18 ^ (n + 1)) (hv : figV vs) (hz : vs.length + n ≤ 3 * k + 3) : DgI L a b x items ws K O σ k n [some (V.stat (Value.ref L)), some (V.ref a), some (V.int v)] (ov (b :: a :: K) (.list items :: .list vs :: O) σ)
theorem dg_next {v : Int} {n : Nat} (h : v < 18 ^ (n + 1 + 1)) : v.fdiv 18 < 18 ^ (n + 1) := by
  rw [Int.fdiv_eq_ediv_of_nonneg _ (by decide)]
  refine Int.ediv_lt_of_lt_mul (by decide) ?_
  rw [Int.pow_succ] at h
  exact h
theorem dg_len {vs : List V} {v : V} {n k : Nat} (h : vs.length + (n + 1) ≤ 3 * k + 3) : (vs ++ [v]).length + n ≤ 3 * k + 3 := by rw [List.length_append]; show _ + 1 + _ ≤ _; omega
theorem dg_len0 {vs : List V} {v : V} {k : Nat} (h : vs.length ≤ 3 * k) : (vs ++ [v]).length + 2 ≤ 3 * k + 3 := by rw [List.length_append]; show _ + 1 + _ ≤ _; omega
theorem cut40 {is : List Int} : (pslice is none (some 40)).length ≤ 40 := by
  unfold pslice
  rw [List.length_take]
  refine Nat.le_trans (Nat.min_le_left _ _) ?_
  show clipAt is.length 40 - 0 ≤ 40
  rw [clip_ge (i := 40) (k := 40) rfl, Nat.sub_zero]
  exact Nat.min_le_left _ _
inductive DgO (L a b : Addr) (items : List V) (K : List Addr) (O : List AO) (σ : AH) (k : Nat) : Loc → AH → Prop
  | mk (vs : List V) (xo : Option V) (hv : figV vs) (hz : vs.length ≤ 3 * k) : DgO L a b items K O σ k [some (V.stat (Value.ref L)), some (V.ref a), xo] (ov (b :: a :: K) (.list items :: .list vs :: O) σ)
local macro_rules | `(tactic| walk_at "sz2") => `(tactic| (refine dg_sz (by assumption) (by assumption)))
theorem f_digits (hK : C.K = KK C.w.params) (ok : f.Ok (d + 1) ns) (hA : f.A.handled = none) (hn : K.Nodup) (hl : K.length = O.length) {L : Addr} {is : List Int} (hL : StatL C L is) (hz : is.length ≤ 1000000) {Q : V → AH → Prop}
    (h : ∀ a b vs ws, (b :: a :: K).Nodup → figV vs → vs.length ≤ 120 → Q (.ref a) (ov (b :: a :: K) (.list ws :: .list vs :: O) σ)) :
    OC C f X ρ (.stat (.ref 733)) [.stat (.ref L)] [] (ov K O σ) Q := by
  refine OC.def ok (by rw [hK]; exact g733 _) (Binds.p1 (by rw [hK]; exact b733 _)) fun f' ok' hh => ?_
  clear ok
  have hA' := hh hA
  rw [hK] at ok' ⊢
  conv at ok' in (namesOf _) => whnf
  walk_at "in"
  walk_at "ww"
  rename_i a n1
  refine Ex.for_gen XOk.no (fun _ _ _ _ h => h) ?_ (by intros; with_unfolding_all rfl) (by intros; with_unfolding_all rfl)
  refine Ev.slice_stat hL ?_
  walk_at "ww"
  refine ⟨rfl, by omega, _, _, _, rfl, n1, by walk_at "len", fun b n2 => ?_⟩
  refine ⟨_, _, Iters.list (vs := (pslice is none (some 40)).map V.int) hA' (ov_get n2 .head), fun k ρ' σ' => DgO L a b ((pslice is none (some 40)).map V.int) K O σ k ρ' σ', ?_, ?_, ?_, ?_⟩
  · exact .mk [] none ⟨[], (fun _ h => nomatch h), rfl⟩ (Nat.zero_le _)
  · rintro k ρ' σ' ⟨vs, xo, _, _⟩
    exact ov_get n2 .head
  · rintro k v ρ' σ' hv ⟨vs, xo, h1, h2⟩
    have hk : k < 40 := Nat.lt_of_lt_of_le (List.getElem?_eq_some_iff.mp hv).1 (by rw [List.length_map]; exact cut40)
    rw [List.getElem?_map] at hv
    obtain ⟨x, hx, rfl⟩ := Option.map_eq_some_iff.mp hv
    have hs : vs.length + 0 ≤ 3 * k + 3 := Nat.le_trans h2 (Nat.le_add_right _ _)
    walk_at "ww"
    refine Ex.while XOk.no (DgI L a b x ((pslice is none (some 40)).map V.int) [] K O σ k) ?_ 2 (DgI.mk _ _ (Int.fmod_nonneg_of_pos _ (by decide)) (Int.fmod_lt_of_pos _ (by decide)) (figV_snoc h1) (dg_len0 h2))
    clear h1 h2 hs vs
    rintro n _ _ ⟨v, vs, h0, h1, h2, h3⟩
    walk_at "ww"
    · rename_i q
      have q : 18 ≤ v := of_decide_eq_true q
      cases n with
      | zero => exact absurd h1 (Int.not_lt.mpr q)
      | succ n => exact ⟨n, Nat.lt_succ_self n, .mk _ _ (Int.fdiv_nonneg h0 (by decide)) (dg_next h1) (figV_snoc h2) (dg_len h3)⟩
    · rename_i q
      exact .mk vs _ h2 (Nat.le_trans (Nat.le_add_right _ _) h3)
  · rintro ρ' σ' ⟨vs, xo, h1, h2⟩
    walk_at "ww"
    refine h _ _ _ _ n2 h1 (Nat.le_trans h2 ?_)
    rw [List.length_map]
    exact Nat.mul_le_mul_left 3 cut40

end
section
variable {C : Cx} {f : Fx} {ns : List (PySem.Str × NameKind)} {d : Nat} {X : XT} {ρ : Loc} {σ : AH} {K : List Addr} {O O' : List AO}
/-- the words' own figures, the last word first -/
noncomputable def gstep (G : List (Nat × List Nat)) (d : Nat) : List (Nat × List Nat) :=
  if 9 ≤ d ∧ d ≤ 14 then (d - 9, []) :: G else match G with
    | (r, s) :: G => (r, s ++ [d]) :: G
    | [] => []
noncomputable def groups (ds : List Nat) : List (Nat × List Nat) := ds.foldl gstep [(0, [])]
theorem groups_snoc (ds : List Nat) (d : Nat) : groups (ds ++ [d]) = gstep (groups ds) d := by unfold groups; rw [List.foldl_append]; rfl
/-- a word's figures and where their list lies -/
noncomputable abbrev Gr := Nat × Addr × List Nat
noncomputable abbrev gA (G : List Gr) : List Addr := G.map (·.2.1)
noncomputable abbrev gO (G : List Gr) : List AO := G.map fun x => .list (x.2.2.map fun n : Nat => V.int n)
noncomputable abbrev gv (x : Gr) : V := .tup [.int x.1, .ref x.2.1]
noncomputable abbrev gV (G : List Gr) : List V := G.reverse.map gv
noncomputable abbrev gP (G : List Gr) : List (Nat × List Nat) := G.map fun x => (x.1, x.2.2)
theorem gV_cons (x : Gr) (G : List Gr) : gV (x :: G) = gV G ++ [gv x] := by rw [gV, List.reverse_cons, List.map_append]; rfl
theorem GetO.app {a : Addr} {o : AO} : ∀ {G : List Gr}, GetO K O a o → GetO (gA G ++ K) (gO G ++ O) a o
  | [], g => g
  | _ :: G, g => .tail (GetO.app (G := G) g)
theorem PutO.app {a : Addr} {o : AO} : ∀ {G : List Gr}, PutO K O a o O' → PutO (gA G ++ K) (gO G ++ O) a o (gO G ++ O')
  | [], g => g
  | _ :: G, g => .tail (PutO.app (G := G) g)
theorem g_len {G : List Gr} (hl : K.length = O.length) : (gA G ++ K).length = (gO G ++ O).length := by rw [List.length_append, List.length_append, List.length_map, List.length_map, hl]
/-- while the figures are walked -/
inductive GrI (L g : Addr) (ds : List Nat) (K : List Addr) (O : List AO) (σ : AH) (k : Nat) : Loc → AH → Prop
  | mk (r : Nat) (a : Addr) (s : List Nat) (G : List Gr) (xo : Option V) (n : (a :: (gA G ++ (g :: K))).Nodup) (hG : groups (ds.take k) = (r, s) :: gP G) (hz : s.length + G.length ≤ k) :
    GrI L g ds K O σ k [some (V.ref L), some (V.ref g), xo] (ov (a :: (gA G ++ (g :: K))) (.list (s.map fun n : Nat => V.int n) :: (gO G ++ (.list (gV G ++ [gv (r, a, s)]) :: O))) σ)
theorem OS.pair1 {value slice : Expr} {u v : V} {Q : V → AH → Prop} (h : Q v σ) (hs : ∀ o i, subscripted slice false o i = operate [o, i] (getItem o i) := by intros; with_unfolding_all rfl) : OS C f X ρ value slice (.tup [u, v]) (.int 1) σ Q :=
  OS.tup (by show 2 ≤ 16777216; decide) (by show -((2 : Nat) : Int) ≤ 1; decide) (by show (1 : Int) < ((2 : Nat) : Int); decide) rfl h hs
theorem gr_sz {s G k : Nat} (h : s + G ≤ k) (hk : k < 1000) : s ≤ 16777215 ∧ G ≤ 16777214 := ⟨by omega, by omega⟩
theorem take_snoc {α : Type} {l : List α} {k : Nat} {x : α} (h : l[k]? = some x) : l.take (k + 1) = l.take k ++ [x] := by
  rw [List.take_add_one, h]; rfl
local macro_rules | `(tactic| walk_at "gGetO") => `(tactic| ((with_reducible apply GetO.app); walk_at "gGetO"))
local macro_rules | `(tactic| walk_at "gPutO") => `(tactic| ((with_reducible apply PutO.app); walk_at "gPutO"))
local macro_rules | `(tactic| walk_at "gGetO") => `(tactic| with_reducible assumption)
local macro_rules | `(tactic| walk_at "w") => `(tactic| ((with_reducible show OS _ _ _ _ _ _ _ _ _ _); first
  | ((with_reducible apply OS.ov_last); (focus (walk_at "asm")); (focus (walk_at "gGetO")); (focus (walk_at "asm")); (focus (intros; with_unfolding_all rfl)))
  | (refine OS.pair1 ?_)))
theorem f_groups (hK : C.K = KK C.w.params) (ok : f.Ok (d + 1) ns) (hA : f.A.handled = none) (hn : K.Nodup) (hl : K.length = O.length) {L : Addr} {ds : List Nat} (hz : ds.length ≤ 200) (hg : GetO K O L (.list (ds.map fun n : Nat => V.int n))) {Q : V → AH → Prop}
    (h : ∀ g G, (gA G ++ (g :: K)).Nodup → gP G = groups ds → Q (.ref g) (ov (gA G ++ (g :: K)) (gO G ++ (.list (gV G) :: O)) σ)) :
    OC C f X ρ (.stat (.ref 740)) [.ref L] [] (ov K O σ) Q := by
  refine OC.def ok (by rw [hK]; exact g740 _) (Binds.p1 (by rw [hK]; exact b740 _)) fun f' ok' hh => ?_
  clear ok
  have hA' := hh hA
  rw [hK] at ok' ⊢
  conv at ok' in (namesOf _) => whnf
  walk_at "in"
  walk_at "ww"
  rename_i a n1 g n0
  have n2 : (a :: g :: K).Nodup := by
    rw [List.nodup_cons, List.nodup_cons] at n0 ⊢
    exact ⟨fun q => (List.mem_cons.mp q).elim (fun e => n0.1 (e ▸ List.mem_cons_self ..)) n0.2.1, fun q => n0.1 (List.mem_cons_of_mem _ q), n0.2.2⟩
  rw [ov_swap (fun q => (List.nodup_cons.mp n0).1 (by rw [q]; exact List.mem_cons_self ..))]
  have iv : ∀ k ρ' σ', GrI L g ds K O σ k ρ' σ' → σ' L = some (.list (ds.map fun n : Nat => V.int n)) := by
    rintro k ρ' σ' ⟨r, a, s, G, xo, n, _, _⟩
    exact ov_get n (.tail (GetO.app (.tail hg)))
  refine Ex.for_gen XOk.no (fun _ _ _ _ h => h) ?_ (by intros; with_unfolding_all rfl) (by intros; with_unfolding_all rfl)
  walk_at "w"
  refine ⟨_, ds.map fun n : Nat => V.int n, Iters.list hA' (ov_get n2 (.tail (.tail hg))), fun k ρ' σ' => GrI L g ds K O σ k ρ' σ', ?_, iv, ?_, ?_⟩
  · exact GrI.mk 0 a [] [] none n2 rfl (Nat.le_refl _)
  · rintro k v ρ' σ' hv ⟨r, a, s, G, xo, n, hG, hk⟩
    rw [List.getElem?_map] at hv
    obtain ⟨x, hx, rfl⟩ := Option.map_eq_some_iff.mp hv
    have hk2 : k < 1000 := Nat.lt_of_lt_of_le (List.getElem?_eq_some_iff.mp hx).1 (Nat.le_trans hz (by decide))
    obtain ⟨z1, z2⟩ := gr_sz hk hk2
    have hT := groups_snoc (ds.take k) x
    rw [← take_snoc hx, hG] at hT
    have hlen : (a :: (gA G ++ (g :: K))).length = (AO.list (s.map fun n : Nat => V.int n) :: (gO G ++ (AO.list (gV G ++ [gv (r, a, s)]) :: O))).length := congrArg (· + 1) (g_len (congrArg (· + 1) hl))
    have z3 : (gV G).length ≤ 16777214 := by rw [List.length_map, List.length_reverse]; exact z2
    have z4 : (gV G ++ [gv (r, a, s)]).length ≤ 16777215 := by rw [List.length_append]; exact Nat.succ_le_succ z3
    have z5 : (s.map fun n : Nat => V.int n).length ≤ 16777215 := by rw [List.length_map]; exact z1
    have z6 : (gV G).length ≤ 16777215 := Nat.le_succ_of_le z3
    walk_at "ww"
    · rename_i q1 q2 a' n'
      have q3 : 9 ≤ x ∧ x ≤ 14 := ⟨by have := of_decide_eq_true q1; omega, by have := of_decide_eq_true q2; omega⟩
      rw [gstep, if_pos q3] at hT
      have e : ((x : Int) - 9) = ((x - 9 : Nat) : Int) := by omega
      rw [e]
      have := GrI.mk (L := L) (g := g) (ds := ds) (K := K) (O := O) (σ := σ) (k := k + 1) (x - 9) a' [] ((r, a, s) :: G) (some (V.int x)) n' hT (by rw [List.length_cons, List.length_nil]; omega)
      rw [gV_cons] at this
      exact this
    · rename_i q1 q2
      have q3 : ¬ (9 ≤ x ∧ x ≤ 14) := fun e => by have := of_decide_eq_false q2; omega
      rw [gstep, if_neg q3] at hT
      have := GrI.mk (L := L) (g := g) (ds := ds) (K := K) (O := O) (σ := σ) (k := k + 1) r a (s ++ [x]) G (some (V.int x)) n hT (by rw [List.length_append]; show _ + 1 + _ ≤ _; omega)
      rw [List.map_append] at this
      exact this
    · rename_i q1
      have q3 : ¬ (9 ≤ x ∧ x ≤ 14) := fun e => by have := of_decide_eq_false q1; omega
      rw [gstep, if_neg q3] at hT
      have := GrI.mk (L := L) (g := g) (ds := ds) (K := K) (O := O) (σ := σ) (k := k + 1) r a (s ++ [x]) G (some (V.int x)) n hT (by rw [List.length_append]; show _ + 1 + _ ≤ _; omega)
      rw [List.map_append] at this
      exact this
  · rintro ρ' σ' ⟨r, a, s, G, xo, n, hG, hk⟩
    rw [List.length_map, List.take_length] at hG
    walk_at "ww"
    have := h g ((r, a, s) :: G) n hG.symm
    rw [gV_cons] at this
    exact this

end
section
variable {C : Cx} {f : Fx} {ns : List (PySem.Str × NameKind)} {d : Nat} {X : XT} {ρ : Loc} {σ : AH} {K : List Addr} {O O' : List AO}
theorem gc745 (P : Params) : fnGoodC (KK P) 745 (.ofString "r") = true := by kernel_rfl
theorem cc745 (P : Params) (n : Nat) : cellsFrom n (fnAt (KK P) 745).scope.names [] = [(.ofString "r", n)] := by kernel_rfl
theorem bc745 (P : Params) (ca : Value) : bindArgs (fnAt (KK P) 745) ⟨[ca], []⟩ = pure [(.ofString "r", ca)] := by kernel_rfl
/-- the six signs -/
noncomputable def sgn : List Nat := [59, 44, 39, 34, 92, 35]
noncomputable def dial (r k : Nat) : Nat := sgn.getD ((r + k) % 6) 0
theorem di_mod {r k : Nat} : ((r : Int) + (k : Int)).fmod 6 = (((r + k) % 6 : Nat) : Int) := by
  rw [Int.fmod_eq_emod_of_nonneg _ (by decide)]
  omega
theorem di_lo (i : Nat) : -((ofC [';', ',', '\'', '"', '\\', '#']).length : Int) ≤ ((i : Nat) : Int) := by show -((6 : Nat) : Int) ≤ _; omega
theorem di_hi {i : Nat} (h : i < 6) : ((i : Nat) : Int) < ((ofC [';', ',', '\'', '"', '\\', '#']).length : Int) := by show _ < ((6 : Nat) : Int); omega
theorem di_get {r k : Nat} (h : (r + k) % 6 < 6) : (ofC [';', ',', '\'', '"', '\\', '#'])[idx (((r + k) % 6 : Nat) : Int) (ofC [';', ',', '\'', '"', '\\', '#']).length]? = some (dial r k) := by
  have e : idx (((r + k) % 6 : Nat) : Int) (ofC [';', ',', '\'', '"', '\\', '#']).length = (r + k) % 6 := by unfold idx; rw [if_neg (by omega)]; omega
  rw [e]
  unfold dial
  generalize (r + k) % 6 = i at h
  match i, h with
  | 0, _ => rfl
  | 1, _ => rfl
  | 2, _ => rfl
  | 3, _ => rfl
  | 4, _ => rfl
  | 5, _ => rfl
inductive DiI (r : Nat) (acc a c : Addr) (K : List Addr) (O : List AO) (σ : AH) (k : Nat) : List V → Loc → AH → Prop
  | mk (xo : Option V) : DiI r acc a c K O σ k ((List.range k).map fun k => .str [dial r k]) [none, xo, none] (ov (acc :: a :: c :: K) (.list ((List.range k).map fun k => .str [dial r k]) :: .any (RangeO 0 6 1) :: .cell (some (.int r)) :: O) σ)
theorem f_dialect (hK : C.K = KK C.w.params) (ok : f.Ok (d + 1) ns) (hA : f.A.handled = none) (hn : K.Nodup) (hl : K.length = O.length) {r : Nat} (hr : r < 6) {Q : V → AH → Prop}
    (h : ∀ l a b, (l :: a :: b :: K).Nodup → ∀ p q, Q (.ref l) (ov (l :: a :: b :: K) (.list ((List.range 6).map fun k => .str [dial r k]) :: p :: q :: O) σ)) :
    OC C f X ρ (.stat (.ref 745)) [.int r] [] (ov K O σ) Q := by
  refine OC.ov_defC ok (by rw [hK]; exact gc745 _) (fun n => by rw [hK]; exact cc745 _ n) (fun ca => by rw [hK]; exact bc745 _ ca) hn hl fun g c okg hc hh n1 => ?_
  have hA' := hh hA
  rw [hK] at okg ⊢
  conv at okg in (namesOf _) => whnf
  walk_at "in"
  walk_at "w"
  walk_at "w"
  refine Ev.listcomp okg (relabel_names okg) rfl (by decide +kernel) (by decide +kernel) (by decide +kernel) (by decide +kernel) (closureFor_with hc fun env => by with_unfolding_all rfl) ?_
  walk_at "ww"
  refine OC.range1 fun a ha => ?_
  have n2 := ov_new n1 (congrArg (· + 1) hl) ha
  refine ⟨_, _, Iters.range (n := 6) hA' (ov_get n2 .head) (by decide +kernel) (by decide +kernel), by decide, fun acc hacc => ?_⟩
  have n3 := ov_new (K := a :: c :: K) (O := .any (RangeO 0 6 1) :: .cell (some (.int r)) :: O) n2 (congrArg (· + 2) hl) hacc
  refine ⟨DiI r acc a c K O σ, DiI.mk none, fun _ _ _ _ _ => trivial, ?_, ?_⟩
  · rintro g' okg' hc' hh' k v outs ρ' σ' hv ⟨xo⟩
    clear okg
    rw [List.getElem?_map] at hv
    obtain ⟨j, hj, rfl⟩ := Option.map_eq_some_iff.mp hv
    have hk6 : k < 6 := by
      have := (List.getElem?_eq_some_iff.mp hj).1
      rwa [List.length_range] at this
    rw [List.getElem?_range hk6] at hj
    cases hj
    have e0 : (0 + (k : Int) * 1) = (k : Int) := by omega
    rw [e0]
    have e : relabelN [(PySem.Str.ofString ".0", NameKind.local), (PySem.Str.ofString "k", NameKind.local), (PySem.Str.ofString "r", NameKind.free)] [(PySem.Str.ofString "r", NameKind.cell), (PySem.Str.ofString "range", NameKind.globalImplicit)] = [(PySem.Str.ofString ".0", NameKind.local), (PySem.Str.ofString "k", NameKind.local), (PySem.Str.ofString "r", NameKind.cell)] := by with_unfolding_all rfl
    rw [e] at okg'
    have hL : g'.env.cells.lookup (PySem.Str.ofString "r") = some c := by rw [hc']; rfl
    walk_at "w"
    walk_at "w"
    walk_at "w"
    walk_at "w"
    walk_at "w"
    refine Ev.ov_cell okg' (.tail (.tail .head)) hL n3 (.tail (.tail .head)) ?_
    walk_at "ww"
    rw [di_mod]
    refine OS.str (c := dial r k) (by decide) (di_lo _) (di_hi (Nat.mod_lt _ (by decide))) (di_get (Nat.mod_lt _ (by decide))) ?_
    refine ⟨ov_get n3 .head, ?_⟩
    rw [ov_set n3 .head]
    have := DiI.mk (r := r) (acc := acc) (a := a) (c := c) (K := K) (O := O) (σ := σ) (k := k + 1) (some (V.int k))
    rw [List.range_succ, List.map_append] at this
    exact this
  · rintro outs ρ' σ' ⟨xo⟩
    exact h acc a c n3 _ _

end
section
variable {C : Cx} {f : Fx} {ns : List (PySem.Str × NameKind)} {d : Nat} {X : XT} {ρ : Loc} {σ : AH} {K : List Addr} {O O' : List AO}
theorem lf_dialect (hK : C.K = KK C.w.params) (ok : f.Ok (d + 1) ns) (hA : f.A.handled = none) (hn : K.Nodup) (hl : K.length = O.length) {r : Nat} (hr : r < 6) {Q : V → AH → Prop}
    (h : ∀ l a b, (l :: a :: b :: K).Nodup → ∀ p q, Q (.ref l) (ov (l :: a :: b :: K) (.list [.str [dial r 0], .str [dial r 1], .str [dial r 2], .str [dial r 3], .str [dial r 4], .str [dial r 5]] :: p :: q :: O) σ)) :
    OC C f X ρ (.stat (.ref 745)) [.int r] [] (ov K O σ) Q := f_dialect hK ok hA hn hl hr h
local macro_rules | `(tactic| walk_at "gGetO") => `(tactic| with_reducible assumption)
local macro_rules | `(tactic| walk_at "fns") => `(tactic| ((with_reducible apply lf_dialect); (focus (walk_at "asm")); (focus (walk_at "asm")); (focus (walk_at "asm")); (focus (walk_at "asm")); (focus (walk_at "len")); (focus (walk_at "asm")); intro _ _ _ _ _ _))
/-- the signs that a word is made of -/
noncomputable def sgs : List Nat := [59, 44, 39, 34, 92, 35, 97, 32, 10]
/-- a word as it is written: which quotation stands open, the text, the word -/
structure Sp where
  way : Nat
  text : List Nat
  word : List Nat
noncomputable def marksT (r : Nat) : List (List Nat) := [[], [dial r 1], [dial r 2]]
noncomputable abbrev mk3 (r way : Nat) : List Nat := (marksT r).getD way []
noncomputable def spText (r way s : Nat) : List Nat :=
  cond (((way : Nat) : Int) == 0 && [V.str [dial r 0], .str [dial r 1], .str [dial r 2], .str [dial r 3], .str [dial r 4]].any (isStrV [s])) ([dial r 3] ++ [s])
  (cond (((way : Nat) : Int) == 1 && [V.str [dial r 1], .str [dial r 3], .str [dial r 5]].any (isStrV [s])) ([dial r 3] ++ [s])
  (cond (((way : Nat) : Int) == 2 && decide ([s] = [dial r 2])) ([dial r 2] ++ [dial r 3] ++ [dial r 2] ++ [dial r 2]) [s]))
noncomputable def spWord (r way s : Nat) : List Nat := cond (((way : Nat) : Int) == 1 && decide ([s] = [dial r 5])) ([dial r 3] ++ [s]) [s]
noncomputable def spStep (r : Nat) (S : Sp) (d : Nat) : Sp :=
  cond (((d : Nat) : Int) == 15) ⟨(S.way + 1) % 3, S.text ++ mk3 r S.way ++ mk3 r ((S.way + 1) % 3), S.word⟩
  (cond (decide (((d : Nat) : Int) < 9)) ⟨S.way, S.text ++ spText r S.way (sgs.getD d 0), S.word ++ spWord r S.way (sgs.getD d 0)⟩ S)
noncomputable def sp (r : Nat) (ss : List Nat) : Sp := ss.foldl (spStep r) ⟨0, [], []⟩
theorem sp_snoc (r : Nat) (ss : List Nat) (x : Nat) : sp r (ss ++ [x]) = spStep r (sp r ss) x := by unfold sp; rw [List.foldl_append]; rfl
theorem bc_t {α : Type} {b : Bool} {x y z : α} (h : b = true) (e : x = z) : cond b x y = z := by subst h; exact e
theorem bc_f {α : Type} {b : Bool} {x y z : α} (h : b = false) (e : y = z) : cond b x y = z := by subst h; exact e
inductive SpI (r : Nat) (L : Addr) (ss : List Nat) (m : Addr) (A : List Addr) (P : List AO) (σ : AH) (k : Nat) : Loc → AH → Prop
  | mk (S : Sp) (dO sO : Option V) (hS : sp r (ss.take k) = S) (hw : S.way < 3) (ht : S.text.length ≤ 8 * k) (hx : S.word.length ≤ 8 * k) :
    SpI r L ss m A P σ k [some (V.int r), some (V.ref L), some (V.str [dial r 0]), some (V.str [dial r 1]), some (V.str [dial r 2]), some (V.str [dial r 3]), some (V.str [dial r 4]), some (V.str [dial r 5]), some (V.ref m), some (V.int S.way), some (V.str S.text), some (V.str S.word), dO, sO, none]
      (ov (m :: A) (.list ((marksT r).map V.str) :: P) σ)
theorem mk3_len (r w : Nat) : (mk3 r w).length ≤ 1 := by
  unfold mk3 marksT
  match w with
  | 0 => exact Nat.zero_le 1
  | 1 => exact Nat.le_refl 1
  | 2 => exact Nat.le_refl 1
  | _ + 3 => exact Nat.zero_le 1
theorem sp_sz1 {text : List Nat} {r w : Nat} (h : text.length ≤ 2000) : text.length + (mk3 r w).length ≤ 16777216 := Nat.le_trans (Nat.add_le_add h (mk3_len r w)) (by decide)
theorem sp_sz2 {text : List Nat} {r w w' : Nat} (h : text.length ≤ 2000) : (text ++ mk3 r w).length + (mk3 r w').length ≤ 16777216 := by rw [List.length_append]; exact Nat.le_trans (Nat.add_le_add (Nat.add_le_add h (mk3_len r w)) (mk3_len r w')) (by decide)
theorem sp_mod {w : Nat} : ((w : Int) + 1).fmod 3 = (((w + 1) % 3 : Nat) : Int) := by rw [Int.fmod_eq_emod_of_nonneg _ (by decide)]; omega
theorem sgs_lo (i : Nat) : -((sgs.length : Nat) : Int) ≤ ((i : Nat) : Int) := by show -((9 : Nat) : Int) ≤ _; omega
theorem sgs_hi {i : Nat} (h : i < 9) : ((i : Nat) : Int) < ((sgs.length : Nat) : Int) := by show _ < ((9 : Nat) : Int); omega
local macro_rules | `(tactic| walk_at "sz2") => `(tactic| first | exact sp_sz1 (by assumption) | exact sp_sz2 (by assumption) | (simp only [List.length_append, List.length_cons, List.length_nil]; omega))
theorem sgs_get {x : Nat} (h : x < 9) : sgs[idx ((x : Nat) : Int) sgs.length]? = some (sgs.getD x 0) := by
  have e : idx ((x : Nat) : Int) sgs.length = x := by unfold idx; rw [if_neg (by omega)]; omega
  rw [e, List.getD_eq_getElem?_getD, List.getElem?_eq_getElem (show x < sgs.length from h)]; rfl
local macro_rules | `(tactic| walk_at "ite") => `(tactic| first | with_reducible refine ite_t ?_ | with_reducible refine ite_f ?_ | with_reducible refine and_last ?_ | with_reducible refine or_last ?_ | with_reducible refine ite_e (c := true) (by with_reducible assumption) (ite_t ?_) | with_reducible refine ite_e (c := false) (by with_reducible assumption) (ite_f ?_) | with_reducible refine ite_e (c := true) (by walk_at "cond") (ite_t ?_) | with_reducible refine ite_e (c := false) (by walk_at "cond") (ite_f ?_) | ((with_reducible apply and_merge); (focus (intro Q' hQ; walk_at "ww"; exact hQ))) | ((with_reducible apply or_merge); (focus (intro Q' hQ; walk_at "ww"; exact hQ))))
theorem spText_1 {r way s : Nat} (h : (((way : Nat) : Int) == 0 && [V.str [dial r 0], .str [dial r 1], .str [dial r 2], .str [dial r 3], .str [dial r 4]].any (isStrV [s])) = true) : spText r way s = [dial r 3] ++ [s] := bc_t h rfl
theorem spText_2 {r way s : Nat} (h : (((way : Nat) : Int) == 0 && [V.str [dial r 0], .str [dial r 1], .str [dial r 2], .str [dial r 3], .str [dial r 4]].any (isStrV [s])) = false) (h2 : (((way : Nat) : Int) == 1 && [V.str [dial r 1], .str [dial r 3], .str [dial r 5]].any (isStrV [s])) = true) : spText r way s = [dial r 3] ++ [s] := bc_f h (bc_t h2 rfl)
theorem spText_3 {r way s : Nat} (h : (((way : Nat) : Int) == 0 && [V.str [dial r 0], .str [dial r 1], .str [dial r 2], .str [dial r 3], .str [dial r 4]].any (isStrV [s])) = false) (h2 : (((way : Nat) : Int) == 1 && [V.str [dial r 1], .str [dial r 3], .str [dial r 5]].any (isStrV [s])) = false) (h3 : (((way : Nat) : Int) == 2 && decide ([s] = [dial r 2])) = true) : spText r way s = [dial r 2] ++ [dial r 3] ++ [dial r 2] ++ [dial r 2] := bc_f h (bc_f h2 (bc_t h3 rfl))
theorem spText_4 {r way s : Nat} (h : (((way : Nat) : Int) == 0 && [V.str [dial r 0], .str [dial r 1], .str [dial r 2], .str [dial r 3], .str [dial r 4]].any (isStrV [s])) = false) (h2 : (((way : Nat) : Int) == 1 && [V.str [dial r 1], .str [dial r 3], .str [dial r 5]].any (isStrV [s])) = false) (h3 : (((way : Nat) : Int) == 2 && decide ([s] = [dial r 2])) = false) : spText r way s = [s] := bc_f h (bc_f h2 (bc_f h3 rfl))
theorem spWord_1 {r way s : Nat} (h : (((way : Nat) : Int) == 1 && decide ([s] = [dial r 5])) = true) : spWord r way s = [dial r 3] ++ [s] := bc_t h rfl
theorem spWord_2 {r way s : Nat} (h : (((way : Nat) : Int) == 1 && decide ([s] = [dial r 5])) = false) : spWord r way s = [s] := bc_f h rfl
theorem sp_len {t u : List Nat} {k : Nat} (h : t.length ≤ 8 * k) (hu : u.length ≤ 8) : (t ++ u).length ≤ 8 * (k + 1) := by rw [List.length_append]; omega
theorem sp_len0 {t : List Nat} {k : Nat} (h : t.length ≤ 8 * k) : t.length ≤ 8 * (k + 1) := by omega
theorem sp_len2 {t : List Nat} {r w w' k : Nat} (h : t.length ≤ 8 * k) : (t ++ mk3 r w ++ mk3 r w').length ≤ 8 * (k + 1) := by
  have a := mk3_len r w
  have b := mk3_len r w'
  rw [List.length_append, List.length_append]; omega
local macro_rules | `(tactic| walk_at "w") => `(tactic| ((with_reducible show (∃ ρ', PutAt _ _ _ _ ρ' ∧ _)); refine ⟨_, by walk_at "gPutAt", ?_⟩))
local macro_rules | `(tactic| walk_at "fig") => `(tactic| (show _ < 3; assumption))
local macro_rules | `(tactic| walk_at "w") => `(tactic| ((with_reducible show OS _ _ _ _ _ _ _ _ _ _); ((with_reducible apply OS.ov_strs); (focus (walk_at "asm")); (focus (walk_at "gGetO")); (focus (walk_at "fig")); (focus (show 3 ≤ 16777216; decide)); (focus (intros; with_unfolding_all rfl)))))
theorem f_spelled (hK : C.K = KK C.w.params) (ok : f.Ok (d + 3) ns) (hA : f.A.handled = none) (hn : K.Nodup) (hl : K.length = O.length) {r : Nat} (hr : r < 6) {L : Addr} {ss : List Nat} (hz : ss.length ≤ 200) (hg : GetO K O L (.list (ss.map fun n : Nat => V.int n))) {Q : V → AH → Prop}
    (h : ∀ m l a b, (m :: l :: a :: b :: K).Nodup → ∀ o p q t, Q (.tup [.str ((sp r ss).text ++ mk3 r (sp r ss).way), .str (sp r ss).word]) (ov (m :: l :: a :: b :: K) (o :: p :: q :: t :: O) σ)) :
    OC C f X ρ (.stat (.ref 752)) [.int r, .ref L] [] (ov K O σ) Q := by
  refine OC.def ok (by rw [hK]; exact g752 _) (Binds.p2 (by rw [hK]; exact b752 _)) fun f' ok' hh => ?_
  clear ok
  have hA' := hh hA
  rw [hK] at ok' ⊢
  conv at ok' in (namesOf _) => whnf
  walk_at "in"
  walk_at "ww"
  refine AsV.tuple hA' (.inr ⟨_, rfl, ov_get (by assumption) .head⟩) rfl ?_
  iterate 6 ((refine AsL.cons ?_); walk_at "w")
  refine AsL.nil ?_
  walk_at "ww"
  rename_i l x1 x2 n1 p1 p2 m n2
  have iv : ∀ k ρ' σ', SpI r L ss m (l :: x1 :: x2 :: K) (.list [.str [dial r 0], .str [dial r 1], .str [dial r 2], .str [dial r 3], .str [dial r 4], .str [dial r 5]] :: p1 :: p2 :: O) σ k ρ' σ' → σ' L = some (.list (ss.map fun n : Nat => V.int n)) := by
    rintro k ρ' σ' ⟨S, dO, sO, _, _, _, _⟩
    exact ov_get n2 (.tail (.tail (.tail (.tail hg))))
  refine Ex.for_gen XOk.no (fun _ _ _ _ h => h) ?_ (by intros; with_unfolding_all rfl) (by intros; with_unfolding_all rfl)
  walk_at "w"
  refine ⟨_, ss.map fun n : Nat => V.int n, Iters.list hA' (ov_get n2 (.tail (.tail (.tail (.tail hg))))), fun k ρ' σ' => SpI r L ss m (l :: x1 :: x2 :: K) (.list [.str [dial r 0], .str [dial r 1], .str [dial r 2], .str [dial r 3], .str [dial r 4], .str [dial r 5]] :: p1 :: p2 :: O) σ k ρ' σ', ?_, iv, ?_, ?_⟩
  · exact SpI.mk ⟨0, [], []⟩ none none rfl (by decide) (Nat.le_refl _) (Nat.le_refl _)
  · rintro k v ρ' σ' hv ⟨⟨way, text, word⟩, dO, sO, hS, hw, ht, hx⟩
    rw [List.getElem?_map] at hv
    obtain ⟨x, hxx, rfl⟩ := Option.map_eq_some_iff.mp hv
    have hk2 : k < 200 := Nat.lt_of_lt_of_le (List.getElem?_eq_some_iff.mp hxx).1 hz
    have hT := sp_snoc r (ss.take k) x
    rw [← take_snoc hxx, hS] at hT
    dsimp only at hw ht hx ⊢
    have z1 : text.length ≤ 2000 := by omega
    have z2 : word.length ≤ 2000 := by omega
    clear hv hxx hS iv h hg
    walk_at "ww"
    · rename_i q
      rw [sp_mod]
      have hw' : (way + 1) % 3 < 3 := Nat.mod_lt _ (by decide)
      walk_at "ww"
      exact SpI.mk ⟨(way + 1) % 3, text ++ mk3 r way ++ mk3 r ((way + 1) % 3), word⟩ _ _ (hT.trans (bc_t q rfl)) hw' (sp_len2 ht) (sp_len0 hx)
    · rename_i q1 q2
      have hx9 : x < 9 := by have := of_decide_eq_true q2; omega
      refine OS.str (c := sgs.getD x 0) (by decide) (sgs_lo x) (sgs_hi hx9) (sgs_get hx9) ?_
      have hT2 : sp r (ss.take (k + 1)) = ⟨way, text ++ spText r way (sgs.getD x 0), word ++ spWord r way (sgs.getD x 0)⟩ := hT.trans (bc_f q1 (bc_t q2 rfl))
      clear hT
      generalize sgs.getD x 0 = s at hT2 ⊢
      walk_at "ww"
      all_goals (first | rw [spText_1 (by assumption)] at hT2 | rw [spText_2 (by assumption) (by assumption)] at hT2 | rw [spText_3 (by assumption) (by assumption) (by assumption)] at hT2 | rw [spText_4 (by assumption) (by assumption) (by assumption)] at hT2)
      all_goals (first | rw [spWord_1 (by assumption)] at hT2 | rw [spWord_2 (by assumption)] at hT2)
      all_goals exact SpI.mk ⟨_, _, _⟩ _ _ hT2 hw (sp_len ht (Nat.le_of_ble_eq_true rfl)) (sp_len hx (Nat.le_of_ble_eq_true rfl))
    · rename_i q1 q2
      exact SpI.mk ⟨way, text, word⟩ _ _ (hT.trans (bc_f q1 (bc_f q2 rfl))) hw (sp_len0 ht) (sp_len0 hx)
  · rintro ρ' σ' ⟨⟨way, text, word⟩, dO, sO, hS, hw, ht, hx⟩
    rw [List.length_map, List.take_length] at hS
    rw [List.length_map] at ht
    dsimp only at hw ht hx ⊢
    have z1 : text.length ≤ 2000 := by omega
    walk_at "ww"
    have := h m l x1 x2 n2 (.list ((marksT r).map V.str)) (.list [.str [dial r 0], .str [dial r 1], .str [dial r 2], .str [dial r 3], .str [dial r 4], .str [dial r 5]]) p1 p2
    rw [hS] at this
    exact this

end
section
variable {C : Cx} {f : Fx} {ns : List (PySem.Str × NameKind)} {d : Nat} {X : XT} {ρ : Loc} {σ : AH} {K : List Addr} {O O' : List AO}
noncomputable abbrev nextD (E : Dy) : Dy := { E with tok := [], q := false, esc := [32] }
noncomputable abbrev duV (x : Nat × List Nat) : V := .tup [.int x.1, .str x.2]
noncomputable def wsB : Option Nat → List Nat
  | none => [32, 9, 13, 10]
  | some r => ofC ['\t'] ++ [dial r 0]
noncomputable def quB : Option Nat → List Nat
  | none => [39, 34]
  | some r => cond ((r : Int).fmod 2 != 0) ([dial r 2] ++ [dial r 1]) ([dial r 1] ++ [dial r 2])
noncomputable def eqB : Option Nat → List Nat
  | none => [34]
  | some r => ofC ['\t'] ++ [dial r 1]
noncomputable def esB : Option Nat → List Nat
  | none => [92]
  | some r => ofC ['\t'] ++ [dial r 3]
noncomputable def coB : Option Nat → List Nat
  | none => [35]
  | some r => ofC ['\r'] ++ [dial r 4]
/-- the lexer in a dialect -/
noncomputable abbrev cB (sio pb fs : Addr) (B : Option Nat) : Cfg := { sio, infile := .none, posix := true, eof := .none, comm := coB B, wordc := wc04, ws := wsB B, split := true, quotes := quB B, escape := esB B, escq := eqB B, pb, fs, source := .none, punct := [], pc := 0 }
/-- the lexer, set to each word's dialect, tells the words -/
inductive Reads (c : Option Nat → Cfg) (buf : List Nat) : Option Nat → List (Nat × List Nat) → Dy → Prop
  | nil {B : Option Nat} {D : Dy} (n : Nat) (E : Dy) (h1 : D.q = false) (h2 : D.pc = none) (h3 : D.esc = [32]) (h4 : okD n D) (h5 : loop (c B) buf n D = some E) (h6 : resV (c B) E = .none) : Reads c buf B [] D
  | cons {B : Option Nat} {D : Dy} {r : Nat} {w : List Nat} {l : List (Nat × List Nat)} (n : Nat) (E : Dy) (h1 : D.q = false) (h2 : D.pc = none) (h3 : D.esc = [32]) (h4 : okD n D) (h5 : loop (c (some r)) buf n D = some E) (h6 : resV (c (some r)) E = .str w)
      (h7 : E.pc = none) (h8 : Reads c buf (some r) l (nextD E)) : Reads c buf B ((r, w) :: l) D
inductive RdC (c : Option Nat → Cfg) (buf : List Nat) (D : Dy) (r : Nat) (w : List Nat) (l : List (Nat × List Nat)) : Prop
  | mk (n : Nat) (E : Dy) (h1 : D.q = false) (h2 : D.pc = none) (h3 : D.esc = [32]) (h4 : okD n D) (h5 : loop (c (some r)) buf n D = some E) (h6 : resV (c (some r)) E = .str w) (h7 : E.pc = none) (h8 : Reads c buf (some r) l (nextD E)) : RdC c buf D r w l
theorem rdC {c : Option Nat → Cfg} {buf : List Nat} {D : Dy} {B : Option Nat} {r : Nat} {w : List Nat} {l : List (Nat × List Nat)} (h : Reads c buf B ((r, w) :: l) D) : RdC c buf D r w l := by
  cases h with
  | cons n E h1 h2 h3 h4 h5 h6 h7 h8 => exact ⟨n, E, h1, h2, h3, h4, h5, h6, h7, h8⟩
theorem lf_get_text (hK : C.K = KK C.w.params) (ok : f.Ok (d + 9) ns) (hN : K.Nodup) {c : Cfg} {self dd sd : Addr} {buf : List Nat} (hb : buf.length ≤ 1000000) (hp : c.punct.isEmpty = true) (hpl : c.punct.length ≤ 16777216)
    {D E : Dy} {n : Nat} (hq : D.q = false) (hpc : D.pc = none) (he : D.esc = [32]) (hk : okD n D) (hl : loop c buf n D = some E) (hpo : c.posix = true) (hso : c.source = .none) (heo : c.eof = .none)
    (g : PutAll K O (lexB c self dd sd) (lexP c dd D sd buf []) O) (hn : (lexB c self dd sd).Nodup) (p : PutAll K O (lexB c self dd sd) (lexP c dd (nextD E) sd buf []) O') {Q : V → AH → Prop}
    (h : Q (resV c E) (ov K O' σ)) : OC C f X ρ (.stat (.ref 683)) [.ref self] [] (ov K O σ) Q := by
  rw [← ov_ov hN g]
  exact f_get_text hK ok hn hb hp hpl hq hpc he hk hl hpo hso heo (by rw [ov_ov hN p]; exact h)
noncomputable abbrev bfV : Option Nat → V
  | none => .none
  | some r => .int r
noncomputable abbrev lwH (sio pb fs sd dd self : Addr) (K : List Addr) (O : List AO) (buf : List Nat) (c : Cfg) (D : Dy) (τ : AH) : AH := ov (fs :: pb :: sd :: sio :: dd :: self :: K) (.deque [] :: .deque (pcV [] D.pc) :: Mine.sio [10] buf D.pos :: .inst 587 sd :: fields lexKP (lexV c D.st D.tok D.ln) :: .inst 722 dd :: O) τ
/-- behind the setting of a dialect -/
inductive LxM (L du sio pb fs sd dd self : Addr) (text buf : List Nat) (K : List Addr) (O : List AO) (D : Dy) (τ : AH) (sO spO lO dO : Option V) (word : List Nat) (r : Nat) : Fl → Loc → AH → Prop
  | mk (q : List Nat) (e : q = quB (some r)) : LxM L du sio pb fs sd dd self text buf K O D τ sO spO lO dO word r .next
      [some (V.stat (Value.ref L)), some (V.str text), some (V.ref du), some (V.int r), sO, spO, some (V.str word), some (V.str [dial r 0]), some (V.str [dial r 1]), some (V.str [dial r 2]), some (V.str [dial r 3]), some (V.str [dial r 4]), some (V.str [dial r 5]), lO, dO, some (.ref self), some (.int r), none, none, none, none, none]
      (lwH sio pb fs sd dd self K O buf { cB sio pb fs (some r) with quotes := q } D τ)
/-- the second loop of the law -/
inductive LxI (L du sio pb fs sd dd self : Addr) (text buf : List Nat) (K : List Addr) (O : List AO) (due : List (Nat × List Nat)) (k : Nat) : Loc → AH → Prop
  | mk (B : Option Nat) (D : Dy) (rO sO spO wO w1 w2 w3 w4 w5 w6 lO dO : Option V) (τ : AH) (h : Reads (cB sio pb fs) buf B (due.drop k) D) :
    LxI L du sio pb fs sd dd self text buf K O due k [some (V.stat (Value.ref L)), some (V.str text), some (V.ref du), rO, sO, spO, wO, w1, w2, w3, w4, w5, w6, lO, dO, some (.ref self), some (bfV B), none, none, none, none, none]
      (lwH sio pb fs sd dd self K O buf (cB sio pb fs B) D τ)
local macro_rules | `(tactic| walk_at "w") => `(tactic| ((with_reducible show (∃ ρ', PutAt _ _ _ _ ρ' ∧ _)); refine ⟨_, by walk_at "gPutAt", ?_⟩))
local macro_rules | `(tactic| walk_at "gGetO") => `(tactic| with_reducible assumption)
local macro_rules | `(tactic| walk_at "fns") => `(tactic| first
  | ((with_reducible apply lf_dialect); (focus (walk_at "asm")); (focus (walk_at "asm")); (focus (walk_at "asm")); (focus (walk_at "asm")); (focus (walk_at "len")); (focus (walk_at "asm")); intro _ _ _ _ _ _))
local macro_rules | `(tactic| walk_at "o2") => `(tactic| with_reducible refine O2.ne_int_none ?_)
local macro_rules | `(tactic| walk_at "cond") => `(tactic| (simp; done))
local macro_rules | `(tactic| walk_at "sz2") => `(tactic| exact Nat.le_of_ble_eq_true rfl)
theorem law_b (hK : C.K = KK C.w.params) (ok : f.Ok (d + 9) (namesOf (fnAt C.K 759))) (hA : f.A.handled = none) {L du sio pb fs sd dd self : Addr} {text buf : List Nat} (n : (fs :: pb :: sd :: sio :: dd :: self :: K).Nodup) (hl : K.length = O.length) (hb : buf.length ≤ 1000000)
    {due : List (Nat × List Nat)} (hdu : ∀ x ∈ due, x.1 < 6) (hg : GetO K O du (.list (due.map duV))) (hr : Reads (cB sio pb fs) buf none due D0) {rO sO spO wO w1 w2 w3 w4 w5 w6 lO dO : Option V} {Q : Fl → Loc → AH → Prop} (h : ∀ ρ τ, Q (.ret (.bool true)) ρ τ) :
    Ex C f NoX [some (V.stat (Value.ref L)), some (V.str text), some (V.ref du), rO, sO, spO, wO, w1, w2, w3, w4, w5, w6, lO, dO, some (.ref self), none, none, none, none, none, none]
      (execs ((bodyOf (fnAt C.K 759)).drop 4) f.env) (ov (fs :: pb :: sd :: sio :: dd :: self :: K) (lexP (c04 sio pb fs) dd D0 sd buf [] ++ O) σ) Q := by
  rw [hK] at ok ⊢
  conv at ok in (namesOf _) => whnf
  conv in (bodyOf _) => whnf
  simp only [List.drop, List.cons_append, List.nil_append]
  walk_at "ww"
  refine Ex.for_listT XOk.no (fun _ _ _ _ h => h) ?_ (by intros; with_unfolding_all rfl)
  walk_at "ww"
  have hg6 : ∀ D' B' τ', lwH sio pb fs sd dd self K O buf (cB sio pb fs B') D' τ' du = some (.list (due.map duV)) := fun D' B' τ' => ov_get n (.tail (.tail (.tail (.tail (.tail (.tail hg))))))
  refine ⟨_, due.map duV, Iters.list hA (hg6 D0 none _), fun k ρ' σ' => LxI L du sio pb fs sd dd self text buf K O due k ρ' σ', ?_, ?_, ?_, ?_⟩
  · exact LxI.mk none D0 rO sO spO wO w1 w2 w3 w4 w5 w6 lO dO σ hr
  · rintro k ρ' σ' ⟨B, D, rO, sO, spO, wO, w1, w2, w3, w4, w5, w6, lO, dO, τ, hR⟩
    exact hg6 D B τ
  · rintro k v ρ' σ' hv ⟨B, D, rO, sO, spO, wO, w1, w2, w3, w4, w5, w6, lO, dO, τ, hR⟩
    rw [List.getElem?_map] at hv
    obtain ⟨x, hx, rfl⟩ := Option.map_eq_some_iff.mp hv
    have hx6 : x.1 < 6 := hdu x (List.mem_of_getElem? hx)
    obtain ⟨hk, hx⟩ := List.getElem?_eq_some_iff.mp hx
    rw [List.drop_eq_getElem_cons hk, hx] at hR
    obtain ⟨r, word⟩ := x
    clear hv hdu hr hx hg6
    dsimp only at hx6
    refine AsV.tuple hA (.inl rfl) rfl ?_
    refine AsL.cons ?_
    walk_at "w"
    refine AsL.cons ?_
    walk_at "w"
    refine AsL.nil ?_
    walk_at "ww"
    rename_i l x1 x2 n5 o1 o2
    refine AsV.tuple hA (.inr ⟨_, rfl, ov_get n5 .head⟩) rfl ?_
    rw [ov_sink n5, ov_sink (List.nodup_cons.mp n5).2, ov_sink (List.nodup_cons.mp (List.nodup_cons.mp n5).2).2]
    clear n5
    generalize ((τ.set _ _).set _ _).set _ _ = τ2
    clear τ
    iterate 6 ((refine AsL.cons ?_); walk_at "w")
    refine AsL.nil ?_
    show Ex C f NoX _ (execs _ f.env) _ _
    refine Ex.cons (Ex.mono (Q := LxM L du sio pb fs sd dd self text buf K O D τ2 sO spO lO dO word r) ?_ ?_)
    · have hQ : ∀ q, q = quB (some r) → LxM L du sio pb fs sd dd self text buf K O D τ2 sO spO lO dO word r .next
          [some (V.stat (Value.ref L)), some (V.str text), some (V.ref du), some (V.int r), sO, spO, some (V.str word), some (V.str [dial r 0]), some (V.str [dial r 1]), some (V.str [dial r 2]), some (V.str [dial r 3]), some (V.str [dial r 4]), some (V.str [dial r 5]), lO, dO, some (.ref self), some (.int r), none, none, none, none, none]
          (lwH sio pb fs sd dd self K O buf { cB sio pb fs (some r) with quotes := q } D τ2) := fun q e => .mk q e
      clear h hR hg
      generalize LxM L du sio pb fs sd dd self text buf K O D τ2 sO spO lO dO word r = Q' at hQ ⊢
      cases B with
      | none =>
        simp only [bfV]
        walk_at "ww"
        · exact hQ _ (bc_t (by assumption) rfl).symm
        · exact hQ _ (bc_f (by assumption) rfl).symm
      | some b =>
        simp only [bfV]
        walk_at "ww"
        · exact hQ _ (bc_t (by assumption) rfl).symm
        · exact hQ _ (bc_f (by assumption) rfl).symm
        · rename_i q
          have e : r = b := by simp at q; omega
          subst e
          exact hQ _ rfl
    · rintro _ _ _ ⟨q, rfl⟩
      obtain ⟨n', E, h1, h2, h3, h4, h5, h6, h7, h8⟩ := rdC hR
      walk_at "ww"
      refine lf_get_text (d := d) (c := cB sio pb fs (some r)) (self := self) (dd := dd) (sd := sd) (buf := buf) (D := D) (E := E) (n := n') hK ok n hb rfl (Nat.zero_le _) h1 h2 h3 h4 h5 rfl rfl rfl (by walk_at "pall") (by walk_at "nd") (by walk_at "pall") ?_
      rw [h6]
      walk_at "ww"
      exact LxI.mk (some r) (nextD E) _ _ _ _ _ _ _ _ _ _ _ _ _ h8
  · rintro ρ' σ' ⟨B, D, rO, sO, spO, wO, w1, w2, w3, w4, w5, w6, lO, dO, τ, hR⟩
    rw [List.length_map, List.drop_length] at hR
    obtain ⟨n', E, h1, h2, h3, h4, h5, h6⟩ := hR
    walk_at "ww"
    refine lf_get_text (d := d) (c := cB sio pb fs B) (self := self) (dd := dd) (sd := sd) (buf := buf) (D := D) (E := E) (n := n') hK ok n hb rfl (Nat.zero_le _) h1 h2 h3 h4 h5 rfl rfl rfl (by walk_at "pall") (by walk_at "nd") (by walk_at "pall") ?_
    rw [h6]
    walk_at "ww"
    exact h _ _

end
section
/-- a comment's line -/
noncomputable def lineT (r : Nat) : List Nat := [dial r 4] ++ sgs
noncomputable def leadT (r : Nat) (ss : List Nat) : List Nat := ss.foldl (fun t d => cond (((d : Nat) : Int) == 17) (t ++ ([dial r 0] ++ lineT r)) t) []
noncomputable def spT (x : Nat × List Nat) : List Nat := (sp x.1 x.2).text ++ mk3 x.1 (sp x.1 x.2).way
noncomputable def tailT (r : Nat) (ss : List Nat) : List Nat := cond (ss.any fun d => ((d : Nat) : Int) == 16) (lineT r) [dial r 0]
/-- what a group adds to the text, and to what is due -/
noncomputable def addT (t : List Nat) (x : Nat × List Nat) : List Nat := cond (!decide (spT x = [])) (t ++ leadT x.1 x.2 ++ (spT x ++ tailT x.1 x.2)) t
noncomputable def addD (u : List (Nat × List Nat)) (x : Nat × List Nat) : List (Nat × List Nat) := cond (!decide (spT x = [])) (u ++ [(x.1, (sp x.1 x.2).word)]) u
/-- what stands behind the line -/
noncomputable def dropLine : List Nat → List Nat
  | [] => []
  | x :: s => cond (x == 10) s (dropLine s)
theorem dropLine_pos : ∀ l : List Nat, dropLine l = match pos? 10 l with | some k => l.drop (k + 1) | none => []
  | [] => rfl
  | x :: s => by
    unfold dropLine pos?
    by_cases h : x = 10
    · subst h; simp
    · have h1 : (x == 10) = false := by simpa using h
      rw [h1, cond_false, dropLine_pos s]
      have h2 : ¬ (10 = x) := fun e => h e.symm
      simp only [h, h2, if_false, ite_false]
      cases q : pos? 10 s with
      | none => simp
      | some k => simp
theorem drop_lineOf (buf : List Nat) (pos : Nat) : buf.drop (lineOf buf pos) = dropLine (buf.drop pos) := by
  unfold lineOf
  split
  · unfold lineEnd
    rw [dropLine_pos]
    cases q : pos? 10 (buf.drop pos) with
    | none => simp
    | some k => dsimp only; rw [List.drop_drop]; congr 1
  · rename_i h
    rw [List.drop_of_length_le (by omega)]; rfl
theorem lineOf_ge (buf : List Nat) (pos : Nat) : pos ≤ lineOf buf pos := by
  unfold lineOf
  split
  · unfold lineEnd
    cases q : pos? 10 (buf.drop pos) with
    | none => dsimp only; omega
    | some k => dsimp only; omega
  · exact Nat.le_refl _
theorem lineOf_le {buf : List Nat} {pos : Nat} (h : pos ≤ buf.length) : lineOf buf pos ≤ buf.length := by
  unfold lineOf
  split
  · unfold lineEnd
    cases q : pos? 10 (buf.drop pos) with
    | none => exact Nat.le_refl _
    | some k =>
      have := pos?_lt q
      rw [List.length_drop] at this
      dsimp only; omega
  · exact h
/-- a reading, told of the signs that lie ahead -/
noncomputable def Rd (c : Cfg) (st : V) (tok : List Nat) (q : Bool) (esc s : List Nat) (R : V → List Nat → Bool → List Nat → Prop) : Prop :=
  ∀ (buf : List Nat) (ln : Int) (pos : Nat), pos ≤ buf.length → buf.drop pos = s → ∃ n E, n + pos ≤ buf.length + 1 ∧ loop c buf n ⟨st, tok, ln, none, pos, q, esc⟩ = some E ∧ E.pc = none ∧ E.pos ≤ buf.length ∧ R E.st E.tok E.q (buf.drop E.pos)
theorem drop_cons {buf : List Nat} {pos x : Nat} {s : List Nat} (h : buf.drop pos = x :: s) : pos < buf.length ∧ buf[pos]? = some x ∧ buf.drop (pos + 1) = s := by
  have hx : buf[pos]? = some x := by
    have : (buf.drop pos)[0]? = some x := by rw [h]; rfl
    rw [List.getElem?_drop] at this; simpa using this
  refine ⟨(List.getElem?_eq_some_iff.mp hx).1, hx, ?_⟩
  have : (buf.drop pos).drop 1 = s := by rw [h]; rfl
  rw [List.drop_drop] at this; exact this
theorem turn_cons {c : Cfg} {buf : List Nat} {st : V} {tok esc : List Nat} {ln : Int} {pos x : Nat} {q : Bool} (h : buf[pos]? = some x) :
    turn c buf ⟨st, tok, ln, none, pos, q, esc⟩ = turnC c buf ⟨st, tok, cond (decide ([x] = ofC ['\n'])) (ln + 1) ln, none, pos + 1, q, esc⟩ x := by
  unfold turn nextC
  dsimp only
  rw [h]
theorem turn_nil {c : Cfg} {buf : List Nat} {st : V} {tok esc : List Nat} {ln : Int} {pos : Nat} {q : Bool} (h : buf.drop pos = []) : turn c buf ⟨st, tok, ln, none, pos, q, esc⟩ = turnE c ⟨st, tok, ln, none, pos, q, esc⟩ := by
  unfold turn nextC
  dsimp only
  rw [List.getElem?_eq_none (List.drop_eq_nil_iff.mp h)]
variable {c : Cfg} {st st' : V} {tok tok' esc esc' s : List Nat} {x : Nat} {q q' : Bool} {R : V → List Nat → Bool → List Nat → Prop}
theorem Rd.go (h : ∀ buf ln pos, turnC c buf ⟨st, tok, ln, none, pos, q, esc⟩ x = .go ⟨st', tok', ln, none, pos, q', esc'⟩) (k : Rd c st' tok' q' esc' s R) : Rd c st tok q esc (x :: s) R := fun buf ln pos hp hd => by
  obtain ⟨h1, h2, h3⟩ := drop_cons hd
  obtain ⟨n, E, e1, e2, e3⟩ := k buf (cond (decide ([x] = ofC ['\n'])) (ln + 1) ln) (pos + 1) h1 h3
  refine ⟨n + 1, E, by omega, ?_, e3⟩
  rw [loop_succ, turn_cons h2, h]
  exact e2
theorem Rd.line (h : ∀ buf ln pos, turnC c buf ⟨st, tok, ln, none, pos, q, esc⟩ x = .go ⟨st', tok', ln + 1, none, lineOf buf pos, q', esc'⟩) (k : Rd c st' tok' q' esc' (dropLine s) R) : Rd c st tok q esc (x :: s) R := fun buf ln pos hp hd => by
  obtain ⟨h1, h2, h3⟩ := drop_cons hd
  obtain ⟨n, E, e1, e2, e3⟩ := k buf (cond (decide ([x] = ofC ['\n'])) (ln + 1) ln + 1) (lineOf buf (pos + 1)) (lineOf_le h1) (by rw [drop_lineOf, h3])
  have := lineOf_ge buf (pos + 1)
  refine ⟨n + 1, E, by omega, ?_, e3⟩
  rw [loop_succ, turn_cons h2, h]
  exact e2
theorem Rd.brk (h : ∀ buf ln pos, turnC c buf ⟨st, tok, ln, none, pos, q, esc⟩ x = .brk ⟨st', tok', ln, none, pos, q', esc'⟩) (k : R st' tok' q' s) : Rd c st tok q esc (x :: s) R := fun buf ln pos hp hd => by
  obtain ⟨h1, h2, h3⟩ := drop_cons hd
  refine ⟨1, ⟨st', tok', cond (decide ([x] = ofC ['\n'])) (ln + 1) ln, none, pos + 1, q', esc'⟩, by omega, by rw [loop_succ, turn_cons h2, h]; rfl, rfl, h1, ?_⟩
  show R st' tok' q' (buf.drop (pos + 1))
  rw [h3]; exact k
theorem Rd.brkL (h : ∀ buf ln pos, turnC c buf ⟨st, tok, ln, none, pos, q, esc⟩ x = .brk ⟨st', tok', ln + 1, none, lineOf buf pos, q', esc'⟩) (k : R st' tok' q' (dropLine s)) : Rd c st tok q esc (x :: s) R := fun buf ln pos hp hd => by
  obtain ⟨h1, h2, h3⟩ := drop_cons hd
  refine ⟨1, ⟨st', tok', cond (decide ([x] = ofC ['\n'])) (ln + 1) ln + 1, none, lineOf buf (pos + 1), q', esc'⟩, by omega, by rw [loop_succ, turn_cons h2, h]; rfl, rfl, lineOf_le h1, ?_⟩
  show R st' tok' q' (buf.drop (lineOf buf (pos + 1)))
  rw [drop_lineOf, h3]; exact k
theorem Rd.nil (h : ∀ ln pos, turnE c ⟨st, tok, ln, none, pos, q, esc⟩ = .brk ⟨st', tok', ln, none, pos, q', esc'⟩) (k : R st' tok' q' []) : Rd c st tok q esc [] R := fun buf ln pos hp hd => by
  refine ⟨1, ⟨st', tok', ln, none, pos, q', esc'⟩, by omega, by rw [loop_succ, turn_nil hd, h]; rfl, rfl, hp, ?_⟩
  show R st' tok' q' (buf.drop pos)
  rw [hd]; exact k
/-- what a dialect's settings tell of the signs -/
structure Dia (c : Cfg) (w so ha es co ot : Nat) : Prop where
  po : c.posix = true
  spl : c.split = true
  pu : c.punct = []
  hws : ∀ x ∈ sgs, subS [x] c.ws = (x == w)
  hco : ∀ x ∈ sgs, subS [x] c.comm = (x == co)
  hes : ∀ x ∈ sgs, subS [x] c.escape = (x == es)
  hqu : ∀ x ∈ sgs, subS [x] c.quotes = (x == so || x == ha)
  heq : ∀ x ∈ sgs, subS [x] c.escq = (x == so)
  hwc : ∀ x ∈ sgs, subS [x] c.wordc = (x == 97)
  mem : ∀ x ∈ [w, so, ha, es, co, ot], x ∈ sgs
  nd : [w, so, ha, es, co, ot, 97, 32, 10].Nodup
theorem dia {sio pb fs : Addr} {r : Nat} (hr : r < 6) : Dia (cB sio pb fs (some r)) (dial r 0) (dial r 1) (dial r 2) (dial r 3) (dial r 4) (dial r 5) := by
  have h1 : ∀ r < 6, ∀ x ∈ sgs, (wsB (some r)).contains x = (x == dial r 0) := by decide +kernel
  have h2 : ∀ r < 6, ∀ x ∈ sgs, (coB (some r)).contains x = (x == dial r 4) := by decide +kernel
  have h3 : ∀ r < 6, ∀ x ∈ sgs, (esB (some r)).contains x = (x == dial r 3) := by decide +kernel
  have h4 : ∀ r < 6, ∀ x ∈ sgs, (quB (some r)).contains x = (x == dial r 1 || x == dial r 2) := by decide +kernel
  have h5 : ∀ r < 6, ∀ x ∈ sgs, (eqB (some r)).contains x = (x == dial r 1) := by decide +kernel
  have h6 : ∀ x ∈ sgs, wc04.contains x = (x == 97) := by decide +kernel
  have h7 : ∀ r < 6, ∀ x ∈ [dial r 0, dial r 1, dial r 2, dial r 3, dial r 4, dial r 5], x ∈ sgs := by decide +kernel
  have h8 : ∀ r < 6, [dial r 0, dial r 1, dial r 2, dial r 3, dial r 4, dial r 5, 97, 32, 10].Nodup := by decide +kernel
  exact ⟨rfl, rfl, rfl, fun x hx => (subS_one x _).trans (h1 r hr x hx), fun x hx => (subS_one x _).trans (h2 r hr x hx), fun x hx => (subS_one x _).trans (h3 r hr x hx), fun x hx => (subS_one x _).trans (h4 r hr x hx), fun x hx => (subS_one x _).trans (h5 r hr x hx), fun x hx => (subS_one x _).trans (h6 x hx), h7 r hr, h8 r hr⟩
variable {w so ha es co ot : Nat}
theorem Dia.m (D : Dia c w so ha es co ot) : w ∈ sgs ∧ so ∈ sgs ∧ ha ∈ sgs ∧ es ∈ sgs ∧ co ∈ sgs ∧ ot ∈ sgs := by
  have := D.mem
  simp only [List.mem_cons, List.not_mem_nil, or_false, forall_eq_or_imp, forall_eq] at this
  exact this
theorem Dia.t32 (D : Dia c w so ha es co ot) (hx : x ∈ sgs) (buf : List Nat) (ln : Int) (pos : Nat) : turnC c buf ⟨.str [32], [], ln, none, pos, false, esc⟩ x =
    cond (x == w) (.go ⟨.str [32], [], ln, none, pos, false, esc⟩) (cond (x == co) (.go ⟨.str [32], [], ln + 1, none, lineOf buf pos, false, esc⟩)
    (cond (x == es) (.go ⟨.str [x], [], ln, none, pos, false, [97]⟩) (cond (x == so || x == ha) (.go ⟨.str [x], [], ln, none, pos, false, esc⟩) (.go ⟨.str [97], [x], ln, none, pos, false, esc⟩)))) := by
  have hp : subS [x] [] = false := subS_one ..
  have e97 : (x == 97) = true → (x == so || x == ha) = false := fun e => by
    have e := beq_iff_eq.mp e
    have := D.nd
    subst e
    simp only [List.nodup_cons, List.mem_cons, not_or] at this
    simp [Ne.symm this.2.1.2.2.2.2.1, Ne.symm this.2.2.1.2.2.2.1]
  unfold turnC tell
  dsimp only
  rw [D.hws x hx, D.hco x hx, D.hes x hx, D.hqu x hx, D.hwc x hx, D.po, D.spl, D.pu, hp]
  generalize (x == so || x == ha) = b1 at e97 ⊢
  generalize (x == 97) = b2 at e97 ⊢
  cases (x == w) <;> cases (x == co) <;> cases (x == es) <;> cases b2 <;> cases b1 <;> first | rfl | cases (e97 rfl)
theorem Dia.tA (D : Dia c w so ha es co ot) (hx : x ∈ sgs) (htq : (!tok.isEmpty || q) = true) (buf : List Nat) (ln : Int) (pos : Nat) : turnC c buf ⟨.str [97], tok, ln, none, pos, q, esc⟩ x =
    cond (x == w) (.brk ⟨.str [32], tok, ln, none, pos, q, esc⟩) (cond (x == co) (.brk ⟨.str [32], tok, ln + 1, none, lineOf buf pos, q, esc⟩)
    (cond (x == so || x == ha) (.go ⟨.str [x], tok, ln, none, pos, q, esc⟩) (cond (x == es) (.go ⟨.str [x], tok, ln, none, pos, q, [97]⟩) (.go ⟨.str [97], tok ++ [x], ln, none, pos, q, esc⟩)))) := by
  have hp : subS [x] [] = false := subS_one ..
  have nd := D.nd
  simp only [List.nodup_cons, List.mem_cons, not_or] at nd
  have q1 : subS [97] c.quotes = false := (D.hqu 97 (by decide)).trans (by simp [Ne.symm nd.2.1.2.2.2.2.1, Ne.symm nd.2.2.1.2.2.2.1])
  have q2 : subS [97] c.escape = false := (D.hes 97 (by decide)).trans (by simp [Ne.symm nd.2.2.2.1.2.2.1])
  unfold turnC tell
  dsimp only
  rw [D.hws x hx, D.hco x hx, D.hes x hx, D.hqu x hx, D.hwc x hx, D.po, D.spl, D.pu, hp, q1, q2]
  simp only [Bool.true_and, htq]
  cases (x == w) <;> cases (x == co) <;> cases (x == es) <;> cases (x == 97) <;> cases (x == so || x == ha) <;> first | rfl
theorem Dia.tS (D : Dia c w so ha es co ot) (hx : x ∈ sgs) (buf : List Nat) (ln : Int) (pos : Nat) : turnC c buf ⟨.str [so], tok, ln, none, pos, q, esc⟩ x =
    cond (x == so) (.go ⟨.str [97], tok, ln, none, pos, true, esc⟩) (cond (x == es) (.go ⟨.str [x], tok, ln, none, pos, true, [so]⟩) (.go ⟨.str [so], tok ++ [x], ln, none, pos, true, esc⟩)) := by
  have nd := D.nd
  simp only [List.nodup_cons, List.mem_cons, not_or] at nd
  have h0 : decide ([so] = ofC [' ']) = false := decide_eq_false fun e => nd.2.1.2.2.2.2.2.1 (List.cons.inj e).1
  have q1 : subS [so] c.quotes = true := (D.hqu so D.m.2.1).trans (by simp)
  have q2 : subS [so] c.escq = true := (D.heq so D.m.2.1).trans (by simp)
  have q3 : decide ([x] = [so]) = (x == so) := by rw [Bool.eq_iff_iff]; simp
  unfold turnC tell
  dsimp only
  rw [h0, q1, q2, q3, D.hes x hx, D.po]
  cases (x == so) <;> cases (x == es) <;> rfl
theorem Dia.tH (D : Dia c w so ha es co ot) (hx : x ∈ sgs) (buf : List Nat) (ln : Int) (pos : Nat) : turnC c buf ⟨.str [ha], tok, ln, none, pos, q, esc⟩ x =
    cond (x == ha) (.go ⟨.str [97], tok, ln, none, pos, true, esc⟩) (.go ⟨.str [ha], tok ++ [x], ln, none, pos, true, esc⟩) := by
  have nd := D.nd
  simp only [List.nodup_cons, List.mem_cons, not_or] at nd
  have h0 : decide ([ha] = ofC [' ']) = false := decide_eq_false fun e => nd.2.2.1.2.2.2.2.1 (List.cons.inj e).1
  have q1 : subS [ha] c.quotes = true := (D.hqu ha D.m.2.2.1).trans (by simp)
  have q2 : subS [ha] c.escq = false := (D.heq ha D.m.2.2.1).trans (by simp [Ne.symm nd.2.1.1])
  have q3 : decide ([x] = [ha]) = (x == ha) := by rw [Bool.eq_iff_iff]; simp
  unfold turnC tell
  dsimp only
  rw [h0, q1, q2, q3, D.hes x hx, D.po]
  cases (x == ha) <;> cases (x == es) <;> rfl
theorem Dia.tE (D : Dia c w so ha es co ot) (buf : List Nat) (ln : Int) (pos : Nat) : turnC c buf ⟨.str [es], tok, ln, none, pos, q, esc⟩ x =
    .go ⟨.str esc, cond (subS esc c.quotes && (!decide ([x] = [es]) && !decide ([x] = esc))) (tok ++ [es] ++ [x]) (tok ++ [x]), ln, none, pos, q, esc⟩ := by
  have nd := D.nd
  simp only [List.nodup_cons, List.mem_cons, not_or] at nd
  have h0 : decide ([es] = ofC [' ']) = false := decide_eq_false fun e => nd.2.2.2.1.2.2.2.1 (List.cons.inj e).1
  have q1 : subS [es] c.quotes = false := (D.hqu es D.m.2.2.2.1).trans (by simp [Ne.symm nd.2.1.2.1, Ne.symm nd.2.2.1.1])
  have q2 : subS [es] c.escape = true := (D.hes es D.m.2.2.2.1).trans (by simp)
  unfold turnC tell
  dsimp only
  rw [h0, q1, q2]
  rfl

end
section
variable {c : Cfg} {st st' : V} {tok tok' esc esc' s : List Nat} {x : Nat} {q q' : Bool} {R : V → List Nat → Bool → List Nat → Prop} {w so ha es co ot r : Nat}
theorem Dia.f (D : Dia c w so ha es co ot) : co ≠ w ∧ so ≠ w ∧ so ≠ co ∧ so ≠ es ∧ ha ≠ w ∧ ha ≠ co ∧ ha ≠ so ∧ ha ≠ es ∧ es ≠ w ∧ es ≠ co ∧ es ≠ so ∧ es ≠ ha ∧ ot ≠ es ∧ ot ≠ so := by
  have nd := D.nd
  simp only [List.nodup_cons, List.mem_cons, not_or] at nd
  exact ⟨Ne.symm nd.1.2.2.2.1, Ne.symm nd.1.1, nd.2.1.2.2.1, nd.2.1.2.1, Ne.symm nd.1.2.1, nd.2.2.1.2.1, Ne.symm nd.2.1.1, nd.2.2.1.1, Ne.symm nd.1.2.2.1, nd.2.2.2.1.1, Ne.symm nd.2.1.2.1, Ne.symm nd.2.2.1.1, Ne.symm nd.2.2.2.1.2.1, Ne.symm nd.2.1.2.2.2.1⟩
theorem bf {a b : Nat} (h : a ≠ b) : (a == b) = false := beq_eq_false_iff_ne.mpr h
theorem bt (a : Nat) : (a == a) = true := beq_self_eq_true a
theorem bo {a b : Bool} (h : a = false) (k : b = false) : (a || b) = false := by subst h; exact k
theorem bo1 {a b : Bool} (h : a = true) : (a || b) = true := by subst h; rfl
theorem bo2 {a b : Bool} (k : b = true) : (a || b) = true := by subst k; exact Bool.or_true a
/-- ahead of a word -/
theorem Dia.s_w (D : Dia c w so ha es co ot) (k : Rd c (.str [32]) [] false esc s R) : Rd c (.str [32]) [] false esc (w :: s) R :=
  Rd.go (fun buf ln pos => (D.t32 D.m.1 buf ln pos).trans (bc_t (bt w) rfl)) k
theorem Dia.s_co (D : Dia c w so ha es co ot) (k : Rd c (.str [32]) [] false esc (dropLine s) R) : Rd c (.str [32]) [] false esc (co :: s) R :=
  Rd.line (fun buf ln pos => (D.t32 D.m.2.2.2.2.1 buf ln pos).trans (bc_f (bf D.f.1) (bc_t (bt co) rfl))) k
theorem Dia.s_so (D : Dia c w so ha es co ot) (k : Rd c (.str [so]) [] false esc s R) : Rd c (.str [32]) [] false esc (so :: s) R :=
  Rd.go (fun buf ln pos => (D.t32 D.m.2.1 buf ln pos).trans (bc_f (bf D.f.2.1) (bc_f (bf D.f.2.2.1) (bc_f (bf D.f.2.2.2.1) (bc_t (bo1 (bt so)) rfl))))) k
theorem Dia.s_es (D : Dia c w so ha es co ot) (k : Rd c (.str [es]) [] false [97] s R) : Rd c (.str [32]) [] false esc (es :: s) R :=
  Rd.go (fun buf ln pos => (D.t32 D.m.2.2.2.1 buf ln pos).trans (bc_f (bf D.f.2.2.2.2.2.2.2.2.1) (bc_f (bf D.f.2.2.2.2.2.2.2.2.2.1) (bc_t (bt es) rfl)))) k
theorem Dia.s_x (D : Dia c w so ha es co ot) (hx : x ∈ sgs) (h1 : (x == w) = false) (h2 : (x == co) = false) (h3 : (x == es) = false) (h4 : (x == so) = false) (h5 : (x == ha) = false) (k : Rd c (.str [97]) [x] false esc s R) : Rd c (.str [32]) [] false esc (x :: s) R :=
  Rd.go (fun buf ln pos => (D.t32 hx buf ln pos).trans (bc_f h1 (bc_f h2 (bc_f h3 (bc_f (bo h4 h5) rfl))))) k
/-- in a word that stands bare -/
theorem Dia.a_w (D : Dia c w so ha es co ot) (h : (!tok.isEmpty || q) = true) (k : R (.str [32]) tok q s) : Rd c (.str [97]) tok q esc (w :: s) R :=
  Rd.brk (fun buf ln pos => (D.tA D.m.1 h buf ln pos).trans (bc_t (bt w) rfl)) k
theorem Dia.a_co (D : Dia c w so ha es co ot) (h : (!tok.isEmpty || q) = true) (k : R (.str [32]) tok q (dropLine s)) : Rd c (.str [97]) tok q esc (co :: s) R :=
  Rd.brkL (fun buf ln pos => (D.tA D.m.2.2.2.2.1 h buf ln pos).trans (bc_f (bf D.f.1) (bc_t (bt co) rfl))) k
theorem Dia.a_so (D : Dia c w so ha es co ot) (h : (!tok.isEmpty || q) = true) (k : Rd c (.str [so]) tok q esc s R) : Rd c (.str [97]) tok q esc (so :: s) R :=
  Rd.go (fun buf ln pos => (D.tA D.m.2.1 h buf ln pos).trans (bc_f (bf D.f.2.1) (bc_f (bf D.f.2.2.1) (bc_t (bo1 (bt so)) rfl)))) k
theorem Dia.a_ha (D : Dia c w so ha es co ot) (h : (!tok.isEmpty || q) = true) (k : Rd c (.str [ha]) tok q esc s R) : Rd c (.str [97]) tok q esc (ha :: s) R :=
  Rd.go (fun buf ln pos => (D.tA D.m.2.2.1 h buf ln pos).trans (bc_f (bf D.f.2.2.2.2.1) (bc_f (bf D.f.2.2.2.2.2.1) (bc_t (bo2 (bt ha)) rfl)))) k
theorem Dia.a_es (D : Dia c w so ha es co ot) (h : (!tok.isEmpty || q) = true) (k : Rd c (.str [es]) tok q [97] s R) : Rd c (.str [97]) tok q esc (es :: s) R :=
  Rd.go (fun buf ln pos => (D.tA D.m.2.2.2.1 h buf ln pos).trans (bc_f (bf D.f.2.2.2.2.2.2.2.2.1) (bc_f (bf D.f.2.2.2.2.2.2.2.2.2.1) (bc_f (bo (bf D.f.2.2.2.2.2.2.2.2.2.2.1) (bf D.f.2.2.2.2.2.2.2.2.2.2.2.1)) (bc_t (bt es) rfl))))) k
theorem Dia.a_x (D : Dia c w so ha es co ot) (h : (!tok.isEmpty || q) = true) (hx : x ∈ sgs) (h1 : (x == w) = false) (h2 : (x == co) = false) (h3 : (x == es) = false) (h4 : (x == so) = false) (h5 : (x == ha) = false) (k : Rd c (.str [97]) (tok ++ [x]) q esc s R) : Rd c (.str [97]) tok q esc (x :: s) R :=
  Rd.go (fun buf ln pos => (D.tA hx h buf ln pos).trans (bc_f h1 (bc_f h2 (bc_f (bo h4 h5) (bc_f h3 rfl))))) k
theorem Dia.a_end (D : Dia c w so ha es co ot) (k : R .none tok q []) : Rd c (.str [97]) tok q esc [] R := by
  have nd := D.nd
  simp only [List.nodup_cons, List.mem_cons, not_or] at nd
  have q1 : subS [97] c.quotes = false := (D.hqu 97 (by decide)).trans (bo (bf (Ne.symm nd.2.1.2.2.2.2.1)) (bf (Ne.symm nd.2.2.1.2.2.2.1)))
  have q2 : subS [97] c.escape = false := (D.hes 97 (by decide)).trans (bf (Ne.symm nd.2.2.2.1.2.2.1))
  refine Rd.nil (esc' := esc) (fun ln pos => ?_) k
  exact bc_f q1 (bc_f q2 (bc_t rfl rfl))
theorem Rd.none_end (k : R .none [] q []) : Rd c .none tok q esc [] R := Rd.nil (esc' := esc) (fun ln pos => rfl) k
/-- in a quotation with escapes -/
theorem Dia.q_so (D : Dia c w so ha es co ot) (k : Rd c (.str [97]) tok true esc s R) : Rd c (.str [so]) tok q esc (so :: s) R :=
  Rd.go (fun buf ln pos => (D.tS D.m.2.1 buf ln pos).trans (bc_t (bt so) rfl)) k
theorem Dia.q_es (D : Dia c w so ha es co ot) (k : Rd c (.str [es]) tok true [so] s R) : Rd c (.str [so]) tok q esc (es :: s) R :=
  Rd.go (fun buf ln pos => (D.tS D.m.2.2.2.1 buf ln pos).trans (bc_f (bf D.f.2.2.2.2.2.2.2.2.2.2.1) (bc_t (bt es) rfl))) k
theorem Dia.q_x (D : Dia c w so ha es co ot) (hx : x ∈ sgs) (h3 : (x == es) = false) (h4 : (x == so) = false) (k : Rd c (.str [so]) (tok ++ [x]) true esc s R) : Rd c (.str [so]) tok q esc (x :: s) R :=
  Rd.go (fun buf ln pos => (D.tS hx buf ln pos).trans (bc_f h4 (bc_f h3 rfl))) k
/-- in one without -/
theorem Dia.h_ha (D : Dia c w so ha es co ot) (k : Rd c (.str [97]) tok true esc s R) : Rd c (.str [ha]) tok q esc (ha :: s) R :=
  Rd.go (fun buf ln pos => (D.tH D.m.2.2.1 buf ln pos).trans (bc_t (bt ha) rfl)) k
theorem Dia.h_x (D : Dia c w so ha es co ot) (hx : x ∈ sgs) (h5 : (x == ha) = false) (k : Rd c (.str [ha]) (tok ++ [x]) true esc s R) : Rd c (.str [ha]) tok q esc (x :: s) R :=
  Rd.go (fun buf ln pos => (D.tH hx buf ln pos).trans (bc_f h5 rfl)) k
/-- behind an escape -/
theorem Dia.e_a (D : Dia c w so ha es co ot) (k : Rd c (.str [97]) (tok ++ [x]) q [97] s R) : Rd c (.str [es]) tok q [97] (x :: s) R := by
  have nd := D.nd
  simp only [List.nodup_cons, List.mem_cons, not_or] at nd
  have q1 : subS [97] c.quotes = false := (D.hqu 97 (by decide)).trans (bo (bf (Ne.symm nd.2.1.2.2.2.2.1)) (bf (Ne.symm nd.2.2.1.2.2.2.1)))
  refine Rd.go (fun buf ln pos => (D.tE buf ln pos).trans ?_) k
  rw [q1]; rfl
theorem Dia.e_q (D : Dia c w so ha es co ot) (b : Bool) (hb : b = ((x == es) || (x == so))) (k : Rd c (.str [so]) (cond b (tok ++ [x]) (tok ++ [es] ++ [x])) q [so] s R) : Rd c (.str [es]) tok q [so] (x :: s) R := by
  have q1 : subS [so] c.quotes = true := (D.hqu so D.m.2.1).trans (bo1 (bt so))
  have q3 : ∀ y : Nat, decide ([x] = [y]) = (x == y) := fun y => by rw [Bool.eq_iff_iff]; simp
  refine Rd.go (fun buf ln pos => (D.tE buf ln pos).trans ?_) k
  subst hb
  rw [q1, q3, q3]
  cases (x == es) <;> cases (x == so) <;> rfl
/-- a word as it is written, from where it stands -/
noncomputable def txt (r : Nat) : Nat → List Nat → List Nat
  | way, [] => mk3 r way
  | way, d :: ss => cond (((d : Nat) : Int) == 15) (mk3 r way ++ (mk3 r ((way + 1) % 3) ++ txt r ((way + 1) % 3) ss)) (cond (decide (((d : Nat) : Int) < 9)) (spText r way (sgs.getD d 0) ++ txt r way ss) (txt r way ss))
noncomputable def wrd (r : Nat) : Nat → List Nat → List Nat
  | _, [] => []
  | way, d :: ss => cond (((d : Nat) : Int) == 15) (wrd r ((way + 1) % 3) ss) (cond (decide (((d : Nat) : Int) < 9)) (spWord r way (sgs.getD d 0) ++ wrd r way ss) (wrd r way ss))
theorem sp_txt (r : Nat) : ∀ (ss : List Nat) (S : Sp), (ss.foldl (spStep r) S).text ++ mk3 r (ss.foldl (spStep r) S).way = S.text ++ txt r S.way ss ∧ (ss.foldl (spStep r) S).word = S.word ++ wrd r S.way ss
  | [], S => ⟨rfl, (List.append_nil _).symm⟩
  | d :: ss, S => by
    rw [List.foldl_cons]
    obtain ⟨h1, h2⟩ := sp_txt r ss (spStep r S d)
    rw [h1, h2]
    rw [show txt r S.way (d :: ss) = cond (((d : Nat) : Int) == 15) (mk3 r S.way ++ (mk3 r ((S.way + 1) % 3) ++ txt r ((S.way + 1) % 3) ss)) (cond (decide (((d : Nat) : Int) < 9)) (spText r S.way (sgs.getD d 0) ++ txt r S.way ss) (txt r S.way ss)) from rfl,
      show wrd r S.way (d :: ss) = cond (((d : Nat) : Int) == 15) (wrd r ((S.way + 1) % 3) ss) (cond (decide (((d : Nat) : Int) < 9)) (spWord r S.way (sgs.getD d 0) ++ wrd r S.way ss) (wrd r S.way ss)) from rfl]
    unfold spStep
    cases (((d : Nat) : Int) == 15) with
    | true => exact ⟨by show S.text ++ mk3 r S.way ++ mk3 r ((S.way + 1) % 3) ++ _ = _; rw [List.append_assoc, List.append_assoc]; rfl, rfl⟩
    | false =>
      cases (decide (((d : Nat) : Int) < 9)) with
      | true => exact ⟨List.append_assoc .., List.append_assoc ..⟩
      | false => exact ⟨rfl, rfl⟩
theorem is_one {s a : Nat} : isStrV [s] (V.str [a]) = (s == a) := by
  rw [Bool.eq_iff_iff]
  show decide ([a] = [s]) = true ↔ _
  constructor
  · intro h
    cases of_decide_eq_true h
    exact beq_self_eq_true s
  · intro h
    cases beq_iff_eq.mp h
    exact decide_eq_true rfl
theorem spText0 {s : Nat} : spText r 0 s = cond (s == dial r 0 || (s == dial r 1 || (s == dial r 2 || (s == dial r 3 || s == dial r 4)))) [dial r 3, s] [s] := by
  have e : [V.str [dial r 0], .str [dial r 1], .str [dial r 2], .str [dial r 3], .str [dial r 4]].any (isStrV [s]) = (s == dial r 0 || (s == dial r 1 || (s == dial r 2 || (s == dial r 3 || s == dial r 4)))) := by
    simp only [List.any_cons, List.any_nil, is_one, Bool.or_false]
  unfold spText
  rw [e]
  cases (s == dial r 0 || (s == dial r 1 || (s == dial r 2 || (s == dial r 3 || s == dial r 4)))) <;> rfl
theorem spText1 {s : Nat} : spText r 1 s = cond (s == dial r 1 || (s == dial r 3 || s == dial r 5)) [dial r 3, s] [s] := by
  have e : [V.str [dial r 1], .str [dial r 3], .str [dial r 5]].any (isStrV [s]) = (s == dial r 1 || (s == dial r 3 || s == dial r 5)) := by
    simp only [List.any_cons, List.any_nil, is_one, Bool.or_false]
  unfold spText
  rw [e]
  cases (s == dial r 1 || (s == dial r 3 || s == dial r 5)) <;> rfl
theorem dec_one {s a : Nat} : decide ([s] = [a]) = (s == a) := by rw [Bool.eq_iff_iff]; simp
theorem spText2 {s : Nat} : spText r 2 s = cond (s == dial r 2) [dial r 2, dial r 3, dial r 2, dial r 2] [s] := by
  unfold spText
  rw [dec_one]
  cases (s == dial r 2) <;> rfl
theorem spWord1 {s : Nat} : spWord r 1 s = cond (s == dial r 5) [dial r 3, s] [s] := by
  unfold spWord
  rw [dec_one]
  cases (s == dial r 5) <;> rfl
theorem sgs_mem : ∀ {d : Nat}, decide (((d : Nat) : Int) < 9) = true → sgs.getD d 0 ∈ sgs := fun {d} h => by
  have h : d < 9 := by have := of_decide_eq_true h; omega
  have : ∀ d < 9, sgs.getD d 0 ∈ sgs := by decide
  exact this d h
noncomputable def stW (r : Nat) : Nat → V
  | 0 => .str [97]
  | 1 => .str [dial r 1]
  | _ => .str [dial r 2]
noncomputable abbrev DiaR (c : Cfg) (r : Nat) : Prop := Dia c (dial r 0) (dial r 1) (dial r 2) (dial r 3) (dial r 4) (dial r 5)
theorem or_f {a b : Bool} (h : (a || b) = false) : a = false ∧ b = false := by cases a <;> cases b <;> first | exact ⟨rfl, rfl⟩ | cases h
theorem ne_app' {t : List Nat} {x : Nat} {q : Bool} : (!(t ++ [x]).isEmpty || q) = true := by cases t <;> rfl
theorem txt_rd (D : DiaR c r) : ∀ (ss : List Nat) (way : Nat) (tok : List Nat) (q : Bool) (esc : List Nat), way < 3 → (way = 0 → (!tok.isEmpty || q) = true) →
    (∀ q' esc', (!(tok ++ wrd r way ss).isEmpty || q') = true → Rd c (.str [97]) (tok ++ wrd r way ss) q' esc' s R) → Rd c (stW r way) tok q esc (txt r way ss ++ s) R := by
  intro ss
  induction ss with
  | nil =>
    intro way tok q esc hw h0 k
    have e : tok ++ wrd r way [] = tok := List.append_nil tok
    rw [e] at k
    match way, hw, h0 with
    | 0, _, h0 => exact k q esc (h0 rfl)
    | 1, _, _ => exact D.q_so (k true esc (Bool.or_true _))
    | 2, _, _ => exact D.h_ha (k true esc (Bool.or_true _))
  | cons d ss ih =>
    intro way tok q esc hw h0 k
    unfold txt
    unfold wrd at k
    cases h15 : (((d : Nat) : Int) == 15) with
    | true =>
      rw [h15] at k
      simp only [cond_true] at k ⊢
      match way, hw, h0 with
      | 0, _, h0 => exact D.a_so (h0 rfl) (ih 1 tok q esc (by decide) (fun e => by cases e) k)
      | 1, _, _ => exact D.q_so (D.a_ha (Bool.or_true _) (ih 2 tok true esc (by decide) (fun e => by cases e) k))
      | 2, _, _ => exact D.h_ha (ih 0 tok true esc (by decide) (fun _ => Bool.or_true _) k)
    | false =>
      rw [h15] at k
      simp only [cond_false] at k ⊢
      cases h9 : decide (((d : Nat) : Int) < 9) with
      | false =>
        rw [h9] at k
        exact ih way tok q esc hw h0 k
      | true =>
        rw [h9] at k
        have hx := sgs_mem h9
        generalize sgs.getD d 0 = x at hx k ⊢
        simp only [cond_true] at k ⊢
        match way, hw, h0 with
        | 0, _, h0 =>
          have e : tok ++ (spWord r 0 x ++ wrd r 0 ss) = tok ++ [x] ++ wrd r 0 ss := (List.append_assoc tok [x] _).symm
          rw [e] at k
          rw [spText0]
          cases hb : (x == dial r 0 || (x == dial r 1 || (x == dial r 2 || (x == dial r 3 || x == dial r 4)))) with
          | true => exact D.a_es (h0 rfl) (D.e_a (ih 0 (tok ++ [x]) q [97] (by decide) (fun _ => ne_app') k))
          | false =>
            obtain ⟨b1, hb⟩ := or_f hb
            obtain ⟨b2, hb⟩ := or_f hb
            obtain ⟨b3, hb⟩ := or_f hb
            obtain ⟨b4, b5⟩ := or_f hb
            exact D.a_x (h0 rfl) hx b1 b5 b4 b2 b3 (ih 0 (tok ++ [x]) q esc (by decide) (fun _ => ne_app') k)
        | 1, _, _ =>
          rw [spWord1] at k
          rw [spText1]
          cases hb : (x == dial r 1 || (x == dial r 3 || x == dial r 5)) with
          | true =>
            refine D.q_es (D.e_q _ rfl ?_)
            have e : tok ++ (cond (x == dial r 5) [dial r 3, x] [x] ++ wrd r 1 ss) = cond (x == dial r 3 || x == dial r 1) (tok ++ [x]) (tok ++ [dial r 3] ++ [x]) ++ wrd r 1 ss := by
              cases h5 : (x == dial r 5) with
              | true =>
                have h5 := beq_iff_eq.mp h5
                have f := D.f
                rw [bf (show x ≠ dial r 3 by rw [h5]; exact f.2.2.2.2.2.2.2.2.2.2.2.2.1), bf (show x ≠ dial r 1 by rw [h5]; exact f.2.2.2.2.2.2.2.2.2.2.2.2.2)]
                simp [List.append_assoc]
              | false =>
                have : (x == dial r 3 || x == dial r 1) = true := by rw [h5] at hb; rw [Bool.or_comm]; rw [Bool.or_false] at hb; exact hb
                rw [this]
                simp [List.append_assoc]
            rw [e] at k
            exact ih 1 _ true [dial r 1] (by decide) (fun e => by cases e) k
          | false =>
            obtain ⟨b1, hb⟩ := or_f hb
            obtain ⟨b2, b3⟩ := or_f hb
            rw [b3] at k
            have e : tok ++ ([x] ++ wrd r 1 ss) = tok ++ [x] ++ wrd r 1 ss := (List.append_assoc tok [x] _).symm
            simp only [cond_false] at k
            rw [e] at k
            exact D.q_x hx b2 b1 (ih 1 (tok ++ [x]) true esc (by decide) (fun e => by cases e) k)
        | 2, _, _ =>
          have e : tok ++ (spWord r 2 x ++ wrd r 2 ss) = tok ++ [x] ++ wrd r 2 ss := (List.append_assoc tok [x] _).symm
          rw [e] at k
          rw [spText2]
          cases hb : (x == dial r 2) with
          | true =>
            have hb := beq_iff_eq.mp hb
            subst hb
            exact D.h_ha (D.a_es (Bool.or_true _) (D.e_a (D.a_ha ne_app' (ih 2 _ true [97] (by decide) (fun e => by cases e) k))))
          | false => exact D.h_x hx hb (ih 2 (tok ++ [x]) true esc (by decide) (fun e => by cases e) k)
theorem txt0_rd (D : DiaR c r) : ∀ (ss : List Nat), txt r 0 ss ≠ [] → (∀ q' esc', (!(wrd r 0 ss).isEmpty || q') = true → Rd c (.str [97]) (wrd r 0 ss) q' esc' s R) → Rd c (.str [32]) [] false esc (txt r 0 ss ++ s) R := by
  intro ss
  induction ss with
  | nil => intro h; exact absurd rfl h
  | cons d ss ih =>
    intro h k
    unfold txt at h ⊢
    unfold wrd at k
    cases h15 : (((d : Nat) : Int) == 15) with
    | true =>
      rw [h15] at k
      exact D.s_so (txt_rd D ss 1 [] false esc (by decide) (fun e => by cases e) k)
    | false =>
      rw [h15] at k h
      simp only [cond_false] at h k ⊢
      cases h9 : decide (((d : Nat) : Int) < 9) with
      | false =>
        rw [h9] at k h
        exact ih h k
      | true =>
        rw [h9] at k
        have hx := sgs_mem h9
        generalize sgs.getD d 0 = x at hx k ⊢
        simp only [cond_true] at k ⊢
        rw [spText0]
        cases hb : (x == dial r 0 || (x == dial r 1 || (x == dial r 2 || (x == dial r 3 || x == dial r 4)))) with
        | true => exact D.s_es (D.e_a (txt_rd D ss 0 [x] false [97] (by decide) (fun _ => rfl) k))
        | false =>
          obtain ⟨b1, hb⟩ := or_f hb
          obtain ⟨b2, hb⟩ := or_f hb
          obtain ⟨b3, hb⟩ := or_f hb
          obtain ⟨b4, b5⟩ := or_f hb
          exact D.s_x hx b1 b5 b4 b2 b3 (txt_rd D ss 0 [x] false esc (by decide) (fun _ => rfl) k)
/-- signs and comments ahead of a word -/
noncomputable def ldx (r : Nat) : List Nat → List Nat
  | [] => []
  | d :: ss => cond (((d : Nat) : Int) == 17) (dial r 0 :: dial r 4 :: (sgs ++ ldx r ss)) (ldx r ss)
theorem lead_ldx (r : Nat) : ∀ (ss t : List Nat), ss.foldl (fun t d => cond (((d : Nat) : Int) == 17) (t ++ ([dial r 0] ++ lineT r)) t) t = t ++ ldx r ss
  | [], t => (List.append_nil t).symm
  | d :: ss, t => by
    rw [List.foldl_cons, lead_ldx r ss]
    rw [show ldx r (d :: ss) = cond (((d : Nat) : Int) == 17) (dial r 0 :: dial r 4 :: (sgs ++ ldx r ss)) (ldx r ss) from rfl]
    cases (((d : Nat) : Int) == 17) with
    | true => show t ++ ([dial r 0] ++ lineT r) ++ _ = _; rw [List.append_assoc]; rfl
    | false => rfl
theorem ldx_rd (D : DiaR c r) (k : Rd c (.str [32]) [] false esc s R) : ∀ ss : List Nat, Rd c (.str [32]) [] false esc (ldx r ss ++ s) R
  | [] => k
  | d :: ss => by
    unfold ldx
    cases (((d : Nat) : Int) == 17) with
    | true => exact D.s_w (D.s_co (by show Rd c _ _ _ _ (dropLine (sgs ++ ldx r ss ++ s)) R; rw [List.append_assoc]; exact ldx_rd D k ss))
    | false => exact ldx_rd D k ss
/-- what is told of a word -/
noncomputable def Told (w : List Nat) (s : List Nat) (v : V) : V → List Nat → Bool → List Nat → Prop := fun v' t q s' => v' = v ∧ t = w ∧ (!w.isEmpty || q) = true ∧ s' = s
theorem spT_txt (r : Nat) (ss : List Nat) : spT (r, ss) = txt r 0 ss ∧ (sp r ss).word = wrd r 0 ss := sp_txt r ss ⟨0, [], []⟩
theorem word_rd (D : DiaR c r) {ss : List Nat} (h : spT (r, ss) ≠ []) : Rd c (.str [32]) [] false esc (leadT r ss ++ (spT (r, ss) ++ tailT r ss) ++ s) (Told (sp r ss).word s (.str [32])) := by
  rw [(spT_txt r ss).1] at h ⊢
  rw [(spT_txt r ss).2, show leadT r ss = ldx r ss from lead_ldx r ss [], List.append_assoc, List.append_assoc]
  refine ldx_rd D (txt0_rd D ss h fun q' esc' hq => ?_) ss
  unfold tailT
  cases (ss.any fun d => ((d : Nat) : Int) == 16) with
  | true => exact D.a_co hq ⟨rfl, rfl, hq, rfl⟩
  | false => exact D.a_w hq ⟨rfl, rfl, hq, rfl⟩

end
section
noncomputable def flat : List (Nat × List Nat) → List Nat
  | [] => []
  | x :: L => cond (!decide (spT x = [])) (leadT x.1 x.2 ++ (spT x ++ tailT x.1 x.2)) [] ++ flat L
noncomputable def dueL : List (Nat × List Nat) → List (Nat × List Nat)
  | [] => []
  | x :: L => cond (!decide (spT x = [])) [(x.1, (sp x.1 x.2).word)] [] ++ dueL L
theorem foldT : ∀ (L : List (Nat × List Nat)) (t : List Nat), L.foldl addT t = t ++ flat L
  | [], t => (List.append_nil t).symm
  | x :: L, t => by
    rw [List.foldl_cons, foldT L, show flat (x :: L) = cond (!decide (spT x = [])) (leadT x.1 x.2 ++ (spT x ++ tailT x.1 x.2)) [] ++ flat L from rfl]
    unfold addT
    cases (!decide (spT x = [])) with
    | true => show t ++ leadT x.1 x.2 ++ (spT x ++ tailT x.1 x.2) ++ flat L = _; rw [List.append_assoc t, List.append_assoc t]; rfl
    | false => rfl
theorem foldD : ∀ (L : List (Nat × List Nat)) (t : List (Nat × List Nat)), L.foldl addD t = t ++ dueL L
  | [], t => (List.append_nil t).symm
  | x :: L, t => by
    rw [List.foldl_cons, foldD L, show dueL (x :: L) = cond (!decide (spT x = [])) [(x.1, (sp x.1 x.2).word)] [] ++ dueL L from rfl]
    unfold addD
    cases (!decide (spT x = [])) with
    | true => exact List.append_assoc ..
    | false => rfl
theorem dueL_mem {n : Nat} : ∀ (L : List (Nat × List Nat)), (∀ x ∈ L, x.1 < n) → ∀ y ∈ dueL L, y.1 < n
  | [], _, _, hy => nomatch hy
  | x :: L, h, y, hy => by
    rw [show dueL (x :: L) = cond (!decide (spT x = [])) [(x.1, (sp x.1 x.2).word)] [] ++ dueL L from rfl] at hy
    rcases List.mem_append.mp hy with q | q
    · cases hb : (!decide (spT x = [])) with
      | true => rw [hb] at q; rw [List.mem_singleton.mp q]; exact h x (List.mem_cons_self ..)
      | false => rw [hb] at q; cases q
    · exact dueL_mem L (fun z hz => h z (List.mem_cons_of_mem _ hz)) y q
theorem ok_n {n pos len : Nat} {ln : Int} {st : V} (h : n + pos ≤ len + 1) (hl : len ≤ 1000000) (hs : match st with | .str s => s.length ≤ 1 | _ => True) : okD n ⟨st, [], ln, none, pos, false, [32]⟩ := ⟨by show 0 + 2 * n ≤ _; omega, Nat.le_refl 1, hs⟩
theorem res_str {c : Cfg} {E : Dy} (hp : c.posix = true) (h : (!E.tok.isEmpty || E.q) = true) : resV c E = .str E.tok := by
  unfold resV
  rw [hp]
  cases hq : E.q with
  | true => rfl
  | false =>
    rw [hq] at h
    cases ht : E.tok with
    | nil => rw [ht] at h; cases h
    | cons a l => rfl
variable {sio pb fs : Addr}
theorem reads : ∀ (L : List (Nat × List Nat)) (B : Option Nat) (buf : List Nat) (ln : Int) (pos : Nat), (∀ x ∈ L, x.1 < 6) → pos ≤ buf.length → buf.length ≤ 1000000 → buf.drop pos = flat L ++ [97, 39, 92, 59, 39] →
    Reads (cB sio pb fs) buf B (dueL L ++ [(1, [97, 92, 59])]) ⟨.str [32], [], ln, none, pos, false, [32]⟩
  | [], B, buf, ln, pos, _, hp, hz, hd => by
    have D := dia (sio := sio) (pb := pb) (fs := fs) (r := 1) (by decide)
    have e1 : txt 1 0 [6, 15, 0] = [97, 39, 92, 59, 39] := by decide
    have e2 : wrd 1 0 [6, 15, 0] = [97, 92, 59] := by decide
    have k := txt0_rd (R := Told [97, 92, 59] [] .none) (s := []) (esc := [32]) D [6, 15, 0] (by rw [e1]; exact List.cons_ne_nil _ _) (fun q' esc' hq => by rw [e2] at hq ⊢; exact D.a_end ⟨rfl, rfl, hq, rfl⟩)
    rw [e1] at k
    obtain ⟨n, ⟨st', tok', ln', pc', pos', q', esc'⟩, f1, f2, f3, f4, f5, f6, f7, f8⟩ := k buf ln pos hp hd
    dsimp only at f3 f4 f5 f6 f7 f8
    subst f3 f5 f6
    obtain ⟨n2, ⟨st2, tok2, ln2, pc2, pos2, q2, esc2⟩, g1, g2, g3, g4, g5⟩ := Rd.none_end (c := cB sio pb fs (some 1)) (tok := []) (q := false) (esc := [32]) (R := fun v t q s => v = .none ∧ t = [] ∧ q = false ∧ s = []) ⟨rfl, rfl, rfl, rfl⟩ buf ln' pos' f4 f8
    dsimp only at g3 g4 g5
    obtain ⟨rfl, rfl, rfl, _⟩ := g5
    exact Reads.cons n _ rfl rfl rfl (ok_n f1 hz (Nat.le_refl 1)) f2 (res_str rfl f7) rfl (Reads.nil n2 _ rfl rfl rfl (ok_n g1 hz trivial) g2 rfl)
  | (r, ss) :: L, B, buf, ln, pos, hm, hp, hz, hd => by
    have hr : r < 6 := hm (r, ss) (List.mem_cons_self ..)
    have hm' : ∀ x ∈ L, x.1 < 6 := fun x hx => hm x (List.mem_cons_of_mem _ hx)
    rw [show flat ((r, ss) :: L) = cond (!decide (spT (r, ss) = [])) (leadT r ss ++ (spT (r, ss) ++ tailT r ss)) [] ++ flat L from rfl] at hd
    rw [show dueL ((r, ss) :: L) = cond (!decide (spT (r, ss) = [])) [(r, (sp r ss).word)] [] ++ dueL L from rfl]
    cases hb : (!decide (spT (r, ss) = [])) with
    | false =>
      rw [hb] at hd
      exact reads L B buf ln pos hm' hp hz hd
    | true =>
      rw [hb, cond_true, List.append_assoc _ (flat L)] at hd
      have hne : spT (r, ss) ≠ [] := fun e => by rw [decide_eq_true e] at hb; cases hb
      obtain ⟨n, ⟨st', tok', ln', pc', pos', q', esc'⟩, f1, f2, f3, f4, f5, f6, f7, f8⟩ := word_rd (dia (sio := sio) (pb := pb) (fs := fs) hr) (esc := [32]) (s := flat L ++ [97, 39, 92, 59, 39]) hne buf ln pos hp hd
      dsimp only at f3 f4 f5 f6 f7 f8
      subst f3 f5 f6
      exact Reads.cons n _ rfl rfl rfl (ok_n f1 hz (Nat.le_refl 1)) f2 (res_str rfl f7) rfl (reads L (some r) buf ln' pos' hm' f4 hz f8)
theorem groups_end (ds : List Nat) : groups (ds ++ [10, 6, 15, 0]) = (1, [6, 15, 0]) :: groups ds := by
  unfold groups
  rw [List.foldl_append]
  rfl
theorem clip_m1 (n : Nat) : clipAt n (-1) = n - 1 := by
  unfold clipAt
  simp
  omega
theorem pslice_init (a : List Nat) (x : Nat) : pslice (a ++ [x]) none (some (-1)) = a := by
  unfold pslice
  show ((a ++ [x]).drop 0).take (clipAt (a ++ [x]).length (-1) - 0) = a
  rw [clip_m1, List.length_append]
  simp
theorem text_end (ds : List Nat) : (groups (ds ++ [10, 6, 15, 0])).reverse.foldl addT [] = flat (groups ds).reverse ++ [97, 39, 92, 59, 39] ++ [44] := by
  rw [groups_end, List.reverse_cons, List.foldl_append, foldT (groups ds).reverse, List.nil_append, List.append_assoc]
  have e : ∀ t, addT t (1, [6, 15, 0]) = t ++ leadT 1 [6, 15, 0] ++ (spT (1, [6, 15, 0]) ++ tailT 1 [6, 15, 0]) := fun t => bc_t (by decide) rfl
  show addT _ (1, [6, 15, 0]) = _
  rw [e, show leadT 1 [6, 15, 0] = [] by decide, show spT (1, [6, 15, 0]) ++ tailT 1 [6, 15, 0] = [97, 39, 92, 59, 39] ++ [44] by decide, List.append_nil]
theorem due_end (ds : List Nat) : (groups (ds ++ [10, 6, 15, 0])).reverse.foldl addD [] = dueL (groups ds).reverse ++ [(1, [97, 92, 59])] := by
  rw [groups_end, List.reverse_cons, List.foldl_append, foldD (groups ds).reverse, List.nil_append]
  have e : ∀ t, addD t (1, [6, 15, 0]) = t ++ [(1, (sp 1 [6, 15, 0]).word)] := fun t => bc_t (by decide) rfl
  show addD _ (1, [6, 15, 0]) = _
  rw [e, show (sp 1 [6, 15, 0]).word = [97, 92, 59] by decide]
theorem plain01 {ds text : List Nat} {due : List (Nat × List Nat)} (hm : ∀ x ∈ groups ds, x.1 < 6) (h1 : (groups (ds ++ [10, 6, 15, 0])).reverse.foldl addT [] = text) (h2 : (groups (ds ++ [10, 6, 15, 0])).reverse.foldl addD [] = due) (hz : text.length ≤ 1000000) :
    Reads (cB sio pb fs) (pslice text none (some (-1))) none due D0 ∧ ∀ x ∈ due, x.1 < 6 := by
  rw [text_end] at h1
  rw [due_end] at h2
  have hm' : ∀ x ∈ (groups ds).reverse, x.1 < 6 := fun x hx => hm x (List.mem_reverse.mp hx)
  subst h1 h2
  rw [pslice_init]
  refine ⟨reads (groups ds).reverse none _ 1 0 hm' (Nat.zero_le _) ?_ rfl, fun x hx => ?_⟩
  · rw [List.length_append] at hz
    exact Nat.le_trans (Nat.le_add_right _ _) hz
  · rcases List.mem_append.mp hx with q | q
    · exact dueL_mem _ hm' x q
    · rw [List.mem_singleton.mp q]; exact Nat.lt_of_sub_eq_succ rfl

end
section
variable {C : Cx} {f : Fx} {ns : List (PySem.Str × NameKind)} {d : Nat} {X : XT} {ρ : Loc} {σ : AH} {K : List Addr} {O O' : List AO}
local macro_rules | `(tactic| walk_at "w") => `(tactic| ((with_reducible show (∃ ρ', PutAt _ _ _ _ ρ' ∧ _)); refine ⟨_, by walk_at "gPutAt", ?_⟩))
local macro_rules | `(tactic| walk_at "gGetO") => `(tactic| ((with_reducible apply GetO.app); walk_at "gGetO"))
local macro_rules | `(tactic| walk_at "gGetO") => `(tactic| with_reducible assumption)
local macro_rules | `(tactic| walk_at "fns") => `(tactic| first
  | ((with_reducible apply f_digits); (focus (walk_at "asm")); (focus (walk_at "asm")); (focus (walk_at "asm")); (focus (walk_at "asm")); (focus (walk_at "len")); (focus (walk_at "asm")); (focus (walk_at "asm")); intro _ _ _ _ _ _ _))
local macro_rules | `(tactic| walk_at "o2") => `(tactic| ((with_reducible apply O2.ov_add_list); (focus (walk_at "asm")); (focus (walk_at "gGetO")); (focus (walk_at "gGetO")); (focus (walk_at "sz")); (focus (walk_at "len")); intro _ _))
local macro_rules | `(tactic| walk_at "sz2") => `(tactic| first | (simp only [List.length_append, List.length_cons, List.length_nil]; omega))
theorem groups_ok : ∀ (ds : List Nat) (G : List (Nat × List Nat)) (n : Nat), (∀ x ∈ G, x.1 < 6 ∧ x.2.length ≤ n) → (∀ x ∈ ds.foldl gstep G, x.1 < 6 ∧ x.2.length ≤ n + ds.length) ∧ (ds.foldl gstep G).length ≤ G.length + ds.length
  | [], G, n, h => ⟨h, Nat.le_refl _⟩
  | d :: ds, G, n, h => by
    have h' : (∀ x ∈ gstep G d, x.1 < 6 ∧ x.2.length ≤ n + 1) ∧ (gstep G d).length ≤ G.length + 1 := by
      unfold gstep
      split
      · rename_i q
        refine ⟨fun x hx => ?_, Nat.le_refl _⟩
        rcases List.mem_cons.mp hx with e | e
        · subst e; exact ⟨by show d - 9 < 6; omega, Nat.zero_le _⟩
        · exact ⟨(h x e).1, Nat.le_succ_of_le (h x e).2⟩
      · cases G with
        | nil => exact ⟨fun _ q => (nomatch q), Nat.zero_le _⟩
        | cons y G =>
          obtain ⟨r, s⟩ := y
          refine ⟨fun x hx => ?_, Nat.le_succ _⟩
          rcases List.mem_cons.mp hx with e | e
          · subst e
            have := h (r, s) (List.mem_cons_self ..)
            exact ⟨this.1, by rw [List.length_append]; exact Nat.succ_le_succ this.2⟩
          · have := h x (List.mem_cons_of_mem _ e)
            exact ⟨this.1, Nat.le_succ_of_le this.2⟩
    obtain ⟨h1, h2⟩ := groups_ok ds (gstep G d) (n + 1) h'.1
    refine ⟨fun x hx => ⟨(h1 x hx).1, Nat.le_trans (h1 x hx).2 (by rw [List.length_cons]; omega)⟩, Nat.le_trans h2 ?_⟩
    rw [List.length_cons]
    have := h'.2
    omega
theorem GetO.grp {x : Gr} : ∀ {G : List Gr}, x ∈ G → GetO (gA G ++ K) (gO G ++ O) x.2.1 (.list (x.2.2.map fun n : Nat => V.int n))
  | y :: G, h => by
    rcases List.mem_cons.mp h with e | e
    · subst e; exact .head
    · exact .tail (GetO.grp e)
/-- the first loop of the law -/
inductive LwI (L g du : Addr) (A : List Addr) (P : List AO) (G : List Gr) (k : Nat) : Loc → AH → Prop
  | mk (text : List Nat) (due : List (Nat × List Nat)) (rO sO spO wO w1 w2 w3 w4 w5 w6 lO dO : Option V) (τ : AH) (h1 : ((gP G).reverse.take k).foldl addT [] = text) (h2 : ((gP G).reverse.take k).foldl addD [] = due) (h3 : text.length ≤ 4000 * k) (h4 : due.length ≤ k) :
    LwI L g du A P G k [some (V.stat (Value.ref L)), some (V.str text), some (V.ref du), rO, sO, spO, wO, w1, w2, w3, w4, w5, w6, lO, dO, none, none, none, none, none, none, none]
      (ov (gA G ++ (g :: (A ++ [du]))) (gO G ++ (AO.list (gV G) :: (P ++ [AO.list (due.map duV)]))) τ)
theorem lf_spelled (hK : C.K = KK C.w.params) (ok : f.Ok (d + 3) ns) (hA : f.A.handled = none) (hn : K.Nodup) (hl : K.length = O.length) {r : Nat} (hr : r < 6) {L : Addr} {ss : List Nat} (hz : ss.length ≤ 200) (hg : GetO K O L (.list (ss.map fun n : Nat => V.int n))) {Q : V → AH → Prop}
    (h : ∀ m l a b, (m :: l :: a :: b :: K).Nodup → ∀ o p q t, Q (.tup [.str (spT (r, ss)), .str (sp r ss).word]) (ov (m :: l :: a :: b :: K) (o :: p :: q :: t :: O) σ)) :
    OC C f X ρ (.stat (.ref 752)) [.int r, .ref L] [] (ov K O σ) Q := f_spelled hK ok hA hn hl hr hz hg h
local macro_rules | `(tactic| walk_at "fns") => `(tactic| first
  | ((with_reducible apply lf_spelled); (focus (walk_at "asm")); (focus (walk_at "asm")); (focus (walk_at "asm")); (focus (walk_at "asm")); (focus (walk_at "len")); (focus (walk_at "asm")); (focus (walk_at "asm")); (focus (walk_at "asm")); intro _ _ _ _ _ _ _ _ _)
  | ((with_reducible apply f_shlex); (focus (walk_at "asm")); (focus (walk_at "asm")); (focus (walk_at "asm")); (focus (walk_at "asm")); (focus (walk_at "len")); (focus (exact Nat.le_trans (pslice_length_le _ _ _) (Nat.le_trans (by assumption) (by decide)))); intro _ _ _ _ _ _ _)
  | ((with_reducible apply lf_dialect); (focus (walk_at "asm")); (focus (walk_at "asm")); (focus (walk_at "asm")); (focus (walk_at "asm")); (focus (walk_at "len")); (focus (walk_at "asm")); intro _ _ _ _ _ _))
theorem lineT_eq (r : Nat) : [dial r 4] ++ ofC [';', ',', '\'', '"', '\\', '#', 'a', ' ', '\n'] = lineT r := rfl
noncomputable abbrev leadS (r : Nat) (t : List Nat) (d : Nat) : List Nat := cond (((d : Nat) : Int) == 17) (t ++ ([dial r 0] ++ lineT r)) t
/-- the signs and comments ahead of a word -/
inductive LdI (L du sa : Addr) (r : Nat) (ss text : List Nat) (A : List Addr) (P : List AO) (τ : AH) (j : Nat) : Loc → AH → Prop
  | mk (lead : List Nat) (dO : Option V) (e : (ss.take j).foldl (leadS r) [] = lead) (hz : lead.length ≤ 11 * j) :
    LdI L du sa r ss text A P τ j [some (V.stat (Value.ref L)), some (V.str (text ++ lead)), some (V.ref du), some (V.int r), some (V.ref sa), some (V.str (spT (r, ss))), some (V.str (sp r ss).word), some (V.str [dial r 0]), some (V.str [dial r 1]), some (V.str [dial r 2]), some (V.str [dial r 3]), some (V.str [dial r 4]), some (V.str [dial r 5]), some (V.str (lineT r)), dO, none, none, none, none, none, none, none] (ov A P τ)
local macro_rules | `(tactic| walk_at "sz2") => `(tactic| exact Nat.le_of_ble_eq_true rfl)
theorem ld_len {lead : List Nat} {r j : Nat} (h : lead.length ≤ 11 * j) : (lead ++ ([dial r 0] ++ lineT r)).length ≤ 11 * (j + 1) := by
  rw [List.length_append, show ([dial r 0] ++ lineT r).length = 11 from rfl]; omega
theorem cond_len {b : Bool} {x y : List Nat} {n : Nat} (hx : x.length ≤ n) (hy : y.length ≤ n) : (cond b x y).length ≤ n := by cases b <;> assumption
theorem spText_len (r w s : Nat) : (spText r w s).length ≤ 4 := cond_len (Nat.le_of_ble_eq_true rfl) (cond_len (Nat.le_of_ble_eq_true rfl) (cond_len (Nat.le_of_ble_eq_true rfl) (Nat.le_of_ble_eq_true rfl)))
theorem spStep_len (r : Nat) (S : Sp) (x : Nat) : (spStep r S x).text.length ≤ S.text.length + 8 := by
  unfold spStep
  cases (((x : Nat) : Int) == 15) with
  | true =>
    have a := mk3_len r S.way
    have b := mk3_len r ((S.way + 1) % 3)
    show (S.text ++ mk3 r S.way ++ mk3 r ((S.way + 1) % 3)).length ≤ _
    rw [List.length_append, List.length_append]; omega
  | false =>
    cases (decide (((x : Nat) : Int) < 9)) with
    | true =>
      show (S.text ++ spText r S.way (sgs.getD x 0)).length ≤ _
      rw [List.length_append]
      exact Nat.add_le_add_left (Nat.le_trans (spText_len ..) (by decide)) _
    | false => exact Nat.le_add_right _ _
theorem sp_text_len (r : Nat) : ∀ (ss : List Nat) (S : Sp), (ss.foldl (spStep r) S).text.length ≤ S.text.length + 8 * ss.length
  | [], _ => Nat.le_refl _
  | x :: ss, S => by
    have a := sp_text_len r ss (spStep r S x)
    have b := spStep_len r S x
    show (ss.foldl (spStep r) (spStep r S x)).text.length ≤ _
    rw [List.length_cons]; omega
theorem spT_len (r : Nat) (ss : List Nat) : (spT (r, ss)).length ≤ 8 * ss.length + 1 := by
  have a := sp_text_len r ss ⟨0, [], []⟩
  have b := mk3_len r (sp r ss).way
  show ((sp r ss).text ++ mk3 r (sp r ss).way).length ≤ _
  rw [List.length_append]
  exact Nat.add_le_add (Nat.le_trans a (by show 0 + _ ≤ _; omega)) b
theorem lw_sz1 {t : List Nat} {r : Nat} (h : t.length ≤ 900000) : t.length + ([dial r 0] ++ lineT r).length ≤ 16777216 := Nat.le_trans (Nat.add_le_add h (Nat.le_refl _)) (Nat.le_of_ble_eq_true rfl)
theorem lw_sz2 {t u v : List Nat} (h : t.length ≤ 900000) (hu : u.length ≤ 2000) (hv : v.length ≤ 10) : t.length + (u ++ v).length ≤ 16777216 := by rw [List.length_append]; omega
theorem lw_sz3 {u v : List Nat} (hu : u.length ≤ 2000) (hv : v.length ≤ 10) : u.length + v.length ≤ 16777216 := by omega
local macro_rules | `(tactic| walk_at "sz2") => `(tactic| first | exact lw_sz1 (by assumption) | exact lw_sz2 (by assumption) (by assumption) (Nat.le_of_ble_eq_true rfl) | exact lw_sz3 (by assumption) (Nat.le_of_ble_eq_true rfl))
local macro_rules | `(tactic| walk_at "o2") => `(tactic| ((with_reducible apply O2.ov_in_ints); (focus (walk_at "asm")); (focus (walk_at "gGetO"))))
local macro_rules | `(tactic| walk_at "gPutO") => `(tactic| ((with_reducible apply PutO.app); walk_at "gPutO"))
theorem lw_len {t l u v : List Nat} {k n : Nat} (h : t.length ≤ 4000 * k) (h2 : l.length ≤ 11 * n) (hn : n ≤ 200) (h3 : u.length ≤ 8 * 200 + 1) (h4 : v.length ≤ 10) : (t ++ l ++ (u ++ v)).length ≤ 4000 * (k + 1) := by
  rw [List.length_append, List.length_append, List.length_append]; omega
theorem law_a (hK : C.K = KK C.w.params) (ok : f.Ok (d + 9) (namesOf (fnAt C.K 759))) (hA : f.A.handled = none) {L : Addr} {is : List Int} (hL : StatL C L is) (hz : is.length ≤ 1000000) {Q : Fl → Loc → AH → Prop} (h : ∀ ρ τ, Q (.ret (.bool true)) ρ τ) :
    Ex C f NoX (some (.stat (.ref L)) :: List.replicate ((namesOf (fnAt C.K 759)).length - 1) none) (execs (bodyOf (fnAt C.K 759)) f.env) (ov [] [] noH) Q := by
  have ok0 : Unit → f.Ok (d + 9) (namesOf (fnAt C.K 759)) := fun _ => ok
  rw [hK] at ok ⊢
  conv at ok in (namesOf _) => whnf
  conv in (bodyOf _) => whnf
  conv in (namesOf _) => whnf
  simp only [List.map_cons, List.map_nil, List.length_cons, List.length_nil, List.replicate, Nat.reduceAdd, Nat.reduceSub]
  have n0 : ([] : List Addr).Nodup := List.nodup_nil
  walk_at "ww"
  rename_i du n1
  refine Ex.for_listT XOk.no (fun _ _ _ _ h => h) ?_ (by intros; with_unfolding_all rfl)
  walk_at "ww"
  rename_i a b vs ws n2 hv hz2 c1 n3 c2 n4
  obtain ⟨fs, hfs, rfl⟩ := hv
  rw [List.length_map] at hz2
  have e : (fs.map fun n : Nat => V.int n) ++ [.int 10, .int 6, .int 15, .int 0] = (fs ++ [10, 6, 15, 0]).map fun n : Nat => V.int n := by rw [List.map_append]; rfl
  rw [e]
  have hz3 : (fs ++ [10, 6, 15, 0]).length ≤ 124 := by rw [List.length_append]; exact Nat.add_le_add_right hz2 4
  refine f_groups (d := d + 8) hK ok hA n4 rfl (Nat.le_trans hz3 (by decide)) .head fun g G nG hG => ?_
  have hok := groups_ok (fs ++ [10, 6, 15, 0]) [(0, [])] 0 (fun x hx => by rw [List.mem_singleton] at hx; subst hx; exact ⟨by decide, Nat.le_refl _⟩)
  have hG1 : ∀ x ∈ G, x.1 < 6 ∧ x.2.2.length ≤ 200 := fun x hx => by
    have h1 : (x.1, x.2.2) ∈ gP G := List.mem_map.mpr ⟨x, hx, rfl⟩
    rw [hG] at h1
    have := hok.1 _ h1
    exact ⟨this.1, Nat.le_trans this.2 (by omega)⟩
  have hG2 : G.length ≤ 200 := by
    have h1 : (gP G).length = G.length := List.length_map ..
    rw [← h1, hG]
    exact Nat.le_trans hok.2 (by show 1 + _ ≤ 200; omega)
  clear hok e hfs hz3 hz2
  generalize AO.list ((fs ++ [10, 6, 15, 0]).map fun n : Nat => V.int n) = p1 at *
  generalize AO.list [V.int 10, .int 6, .int 15, .int 0] = p2 at *
  generalize AO.list ws = p3 at *
  generalize AO.list (fs.map fun n : Nat => V.int n) = p4 at *
  refine ⟨_, gV G, Iters.list hA (ov_get nG (GetO.app .head)), fun k ρ' σ' => LwI L g du [c2, c1, b, a] [p1, p2, p3, p4] G k ρ' σ', ?_, ?_, ?_, ?_⟩
  · exact LwI.mk [] [] none none none none none none none none none none none none _ rfl rfl (Nat.zero_le _) (Nat.zero_le _)
  · rintro k ρ' σ' ⟨text, due, rO, sO, spO, wO, w1, w2, w3, w4, w5, w6, lO, dO, τ, h1, h2, h3, h4⟩
    exact ov_get nG (GetO.app .head)
  · rintro k v ρ' σ' hv ⟨text, due, rO, sO, spO, wO, w1, w2, w3, w4, w5, w6, lO, dO, τ, h1, h2, h3, h4⟩
    obtain ⟨x, hx, rfl⟩ : ∃ x, G.reverse[k]? = some x ∧ v = gv x := by
      rw [List.getElem?_map] at hv
      obtain ⟨x, hx, e⟩ := Option.map_eq_some_iff.mp hv
      exact ⟨x, hx, e.symm⟩
    have hm : x ∈ G := List.mem_reverse.mp (List.mem_of_getElem? hx)
    obtain ⟨hr, hss⟩ := hG1 x hm
    obtain ⟨r, sa, ss⟩ := x
    dsimp only at hr hss
    have hgS := GetO.grp (K := g :: [c2, c1, b, a, du]) (O := AO.list (gV G) :: [p1, p2, p3, p4, AO.list (due.map duV)]) hm
    dsimp only at hgS
    clear hv hG1
    have hlen : (gA G ++ (g :: [c2, c1, b, a, du])).length = (gO G ++ (AO.list (gV G) :: [p1, p2, p3, p4, AO.list (due.map duV)])).length := g_len rfl
    simp only [List.cons_append, List.nil_append]
    refine AsV.tuple hA (.inl rfl) rfl ?_
    refine AsL.cons ?_
    walk_at "w"
    refine AsL.cons ?_
    walk_at "w"
    refine AsL.nil ?_
    walk_at "ww"
    rename_i m l x1 x2 n5 o1 o2 o3 o4
    rw [ov_sink n5, ov_sink (List.nodup_cons.mp n5).2, ov_sink (List.nodup_cons.mp (List.nodup_cons.mp n5).2).2, ov_sink (List.nodup_cons.mp (List.nodup_cons.mp (List.nodup_cons.mp n5).2).2).2]
    clear n5
    generalize (((τ.set _ _).set _ _).set _ _).set _ _ = τ2
    clear τ
    refine AsV.tuple hA (.inl rfl) rfl ?_
    refine AsL.cons ?_
    walk_at "w"
    refine AsL.cons ?_
    walk_at "w"
    refine AsL.nil ?_
    have hxP : (gP G).reverse[k]? = some (r, ss) := by rw [← List.map_reverse, List.getElem?_map, hx]; rfl
    have hT : ((gP G).reverse.take (k + 1)).foldl addT [] = addT text (r, ss) := by rw [take_snoc hxP, List.foldl_append, h1]; rfl
    have hD : ((gP G).reverse.take (k + 1)).foldl addD [] = addD due (r, ss) := by rw [take_snoc hxP, List.foldl_append, h2]; rfl
    have hk : k < 200 := by
      have := (List.getElem?_eq_some_iff.mp hx).1
      rw [List.length_reverse] at this
      exact Nat.lt_of_lt_of_le this hG2
    walk_at "ww"
    · rename_i q
      have q' : (!decide (spT (r, ss) = [])) = false := by rw [show decide (spT (r, ss) = []) = true from q]; rfl
      exact LwI.mk text due _ _ _ _ _ _ _ _ _ _ _ _ _ (hT.trans (bc_f q' rfl)) (hD.trans (bc_f q' rfl)) (Nat.le_trans h3 (Nat.mul_le_mul_left _ (Nat.le_succ k))) (Nat.le_succ_of_le h4)
    · rename_i q l x1 x2 n5 o1 o2
      have q' : (!decide (spT (r, ss) = [])) = true := by rw [show decide (spT (r, ss) = []) = false from q]; rfl
      refine AsV.tuple hA (.inr ⟨_, rfl, ov_get n5 .head⟩) rfl ?_
      rw [ov_sink n5, ov_sink (List.nodup_cons.mp n5).2, ov_sink (List.nodup_cons.mp (List.nodup_cons.mp n5).2).2]
      clear n5
      generalize ((τ2.set _ _).set _ _).set _ _ = τ3
      clear τ2
      iterate 6 ((refine AsL.cons ?_); walk_at "w")
      refine AsL.nil ?_
      walk_at "ww"
      rw [lineT_eq]
      have hgL : ∀ j ρ' σ', LdI L du sa r ss text (gA G ++ [g, c2, c1, b, a, du]) (gO G ++ [AO.list (gV G), p1, p2, p3, p4, AO.list (due.map duV)]) τ3 j ρ' σ' → σ' sa = some (.list (ss.map fun n : Nat => V.int n)) := by
        rintro j ρ' σ' ⟨lead, dO', _, _⟩
        exact ov_get nG hgS
      refine Ex.for_gen XOk.no (fun _ _ _ _ h => h) ?_ (by intros; with_unfolding_all rfl) (by intros; with_unfolding_all rfl)
      walk_at "w"
      refine ⟨_, ss.map fun n : Nat => V.int n, Iters.list hA (ov_get nG hgS), fun j ρ' σ' => LdI L du sa r ss text (gA G ++ [g, c2, c1, b, a, du]) (gO G ++ [AO.list (gV G), p1, p2, p3, p4, AO.list (due.map duV)]) τ3 j ρ' σ', ?_, hgL, ?_, ?_⟩
      · have := LdI.mk (L := L) (du := du) (sa := sa) (r := r) (ss := ss) (text := text) (A := gA G ++ [g, c2, c1, b, a, du]) (P := gO G ++ [AO.list (gV G), p1, p2, p3, p4, AO.list (due.map duV)]) (τ := τ3) (j := 0) [] dO rfl (Nat.le_refl _)
        rw [List.append_nil] at this
        exact this
      · rintro j v ρ' σ' hv ⟨lead, dO', e, hzl⟩
        rw [List.getElem?_map] at hv
        obtain ⟨x, hxj, rfl⟩ := Option.map_eq_some_iff.mp hv
        have hj : j < 200 := Nat.lt_of_lt_of_le (List.getElem?_eq_some_iff.mp hxj).1 hss
        have hS : (ss.take (j + 1)).foldl (leadS r) [] = leadS r lead x := by rw [take_snoc hxj, List.foldl_append, e]; rfl
        have z1 : (text ++ lead).length ≤ 900000 := by rw [List.length_append]; omega
        clear hv hxj hgL hT hD h1 h2 hx hxP
        walk_at "ww"
        · rename_i q
          have := LdI.mk (L := L) (du := du) (sa := sa) (r := r) (ss := ss) (text := text) (A := gA G ++ [g, c2, c1, b, a, du]) (P := gO G ++ [AO.list (gV G), p1, p2, p3, p4, AO.list (due.map duV)]) (τ := τ3) (j := j + 1) _ (some (V.int x)) (hS.trans (bc_t q rfl)) (ld_len hzl)
          rw [← List.append_assoc] at this
          exact this
        · rename_i q
          exact LdI.mk _ _ (hS.trans (bc_f q rfl)) (Nat.le_trans hzl (Nat.mul_le_mul_left _ (Nat.le_succ j)))
      · rintro ρ' σ' ⟨lead, dO', e, hzl⟩
        rw [List.length_map, List.take_length] at e
        rw [List.length_map] at hzl
        have z1 : (text ++ lead).length ≤ 900000 := by rw [List.length_append]; omega
        have z2 : (spT (r, ss)).length ≤ 2000 := Nat.le_trans (spT_len r ss) (by omega)
        have z3 : (due.map duV).length ≤ 16777215 := by rw [List.length_map]; omega
        have hLd : leadT r ss = lead := e
        have hDu : (due ++ [(r, (sp r ss).word)]).map duV = due.map duV ++ [V.tup [.int r, .str (sp r ss).word]] := by rw [List.map_append]; rfl
        walk_at "ww"
        · rename_i q
          have := LwI.mk (L := L) (g := g) (du := du) (A := [c2, c1, b, a]) (P := [p1, p2, p3, p4]) (G := G) (k := k + 1) _ _ (some (V.int r)) (some (.ref sa)) (some (.str (spT (r, ss)))) (some (.str (sp r ss).word)) (some (.str [dial r 0])) (some (.str [dial r 1])) (some (.str [dial r 2])) (some (.str [dial r 3])) (some (.str [dial r 4])) (some (.str [dial r 5])) (some (.str (lineT r))) dO' τ3
            (hT.trans (bc_t q' (by rw [hLd, show tailT r ss = lineT r from bc_t q rfl]))) (hD.trans (bc_t q' rfl)) (lw_len h3 hzl hss (Nat.le_trans (spT_len r ss) (Nat.add_le_add_right (Nat.mul_le_mul_left 8 hss) 1)) (Nat.le_refl _)) (by rw [List.length_append]; exact Nat.succ_le_succ h4)
          rw [hDu] at this
          exact this
        · rename_i q
          have := LwI.mk (L := L) (g := g) (du := du) (A := [c2, c1, b, a]) (P := [p1, p2, p3, p4]) (G := G) (k := k + 1) _ _ (some (V.int r)) (some (.ref sa)) (some (.str (spT (r, ss)))) (some (.str (sp r ss).word)) (some (.str [dial r 0])) (some (.str [dial r 1])) (some (.str [dial r 2])) (some (.str [dial r 3])) (some (.str [dial r 4])) (some (.str [dial r 5])) (some (.str (lineT r))) dO' τ3
            (hT.trans (bc_t q' (by rw [hLd, show tailT r ss = [dial r 0] from bc_f q rfl]))) (hD.trans (bc_t q' rfl)) (lw_len h3 hzl hss (Nat.le_trans (spT_len r ss) (Nat.add_le_add_right (Nat.mul_le_mul_left 8 hss) 1)) (Nat.le_of_ble_eq_true rfl)) (by rw [List.length_append]; exact Nat.succ_le_succ h4)
          rw [hDu] at this
          exact this
  · rintro ρ' σ' ⟨text, due, rO, sO, spO, wO, w1, w2, w3, w4, w5, w6, lO, dO, τ, h1, h2, h3, h4⟩
    have hlen : (gA G ++ (g :: [c2, c1, b, a, du])).length = (gO G ++ (AO.list (gV G) :: [p1, p2, p3, p4, AO.list (due.map duV)])).length := g_len rfl
    rw [List.length_map, List.length_reverse] at h3 h4
    have z1 : text.length ≤ 900000 := by omega
    have hT : ((gV G).length) = (gP G).reverse.length := by rw [List.length_map, List.length_reverse, List.length_reverse, List.length_map]
    rw [hT, List.take_length, hG] at h1 h2
    have hm : ∀ x ∈ groups fs, x.1 < 6 := fun x hx => ((groups_ok fs [(0, [])] 0 (fun y hy => by rw [List.mem_singleton] at hy; subst hy; exact ⟨by decide, Nat.le_refl _⟩)).1 x hx).1
    have hP := fun sio pb fs' => plain01 (sio := sio) (pb := pb) (fs := fs') hm h1 h2 (Nat.le_trans z1 (by decide))
    clear h1 h2 hm hG hT h3 h4 hG1 hG2
    simp only [List.cons_append, List.nil_append]
    walk_at "w"
    show Ex C f NoX _ (execs _ f.env) _ _
    refine Ex.cons ?_
    repeat' ((fail_if_success (with_reducible show Ex _ _ _ _ (execs (Stmt.Assign _ _ _ :: _) _) _ _)); walk_at "w")
    rename_i self dd fs' pb sd sio n9
    show Ex C f NoX _ (execs _ f.env) _ _
    have B := law_b (Q := Q) (σ := τ) (d := d) hK (ok0 ()) hA (L := L) (du := du) (sio := sio) (pb := pb) (fs := fs') (sd := sd) (dd := dd) (self := self) (text := text) (buf := pslice text none (some (-1))) (K := gA G ++ [g, c2, c1, b, a, du]) (O := gO G ++ [AO.list (gV G), p1, p2, p3, p4, AO.list (due.map duV)]) (due := due)
      n9 hlen (Nat.le_trans (pslice_length_le _ _ _) (Nat.le_trans z1 (by decide))) (hP sio pb fs').2 (by walk_at "gGetO") (hP sio pb fs').1
      (rO := rO) (sO := sO) (spO := spO) (wO := wO) (w1 := w1) (w2 := w2) (w3 := w3) (w4 := w4) (w5 := w5) (w6 := w6) (lO := lO) (dO := dO) h
    rw [hK] at B
    conv at B in (bodyOf _) => whnf
    simp only [List.drop] at B
    exact B

end
section
theorem main1.tw10009726061097127122 : True := trivial
theorem main1.tw10010571130652561862 : True := trivial
theorem main1.tw10013149322042573047 : True := trivial
theorem main1.tw10022197462997187767 : True := trivial
theorem main1.tw10024656242209762392 : True := trivial
theorem main1.tw10034632283255192440 : True := trivial
theorem main1.tw10060881295938952036 : True := trivial
theorem main1.tw10075021561516699353 : True := trivial
theorem main1.tw10084200776532590857 : True := trivial
theorem main1.tw10112760908634153053 : True := trivial
theorem main1.tw10123680378813200861 : True := trivial
theorem main1.tw10176711574648225703 : True := trivial
theorem main1.tw10180605462163790600 : True := trivial
theorem main1.tw10181793634965362300 : True := trivial
theorem main1.tw10184110059721455641 : True := trivial
theorem main1.tw10186672144390617374 : True := trivial
theorem main1.tw10199026367573329557 : True := trivial
theorem main1.tw10201431118713998748 : True := trivial
theorem main1.tw10227654738632744507 : True := trivial
theorem main1.tw10263382391807269318 : True := trivial
theorem main1.tw10264627685945768800 : True := trivial
theorem main1.tw10269802034999701842 : True := trivial
theorem main1.tw10276698999766040687 : True := trivial
theorem main1.tw10301564058849956897 : True := trivial
theorem main1.tw10308137512088782984 : True := trivial
theorem main1.tw10309532253073820740 : True := trivial
theorem main1.tw10328084707969098124 : True := trivial
theorem main1.tw10328642812316585073 : True := trivial
theorem main1.tw10329304921848732136 : True := trivial
theorem main1.tw10345012347613294188 : True := trivial
theorem main1.tw10370080202009522594 : True := trivial
theorem main1.tw10378886035487617937 : True := trivial
theorem main1.tw10389056533311012560 : True := trivial
theorem main1.tw10404629147530556188 : True := trivial
theorem main1.tw10433796519554206856 : True := trivial
theorem main1.tw10442359537486840851 : True := trivial
theorem main1.tw10468949091164142078 : True := trivial
theorem main1.tw10509183551190709333 : True := trivial
theorem main1.tw10531406648363615744 : True := trivial
theorem main1.tw10535762583859407637 : True := trivial
theorem main1.tw10559808567745681758 : True := trivial
theorem main1.tw10580550045686159334 : True := trivial
theorem main1.tw10582664133921399420 : True := trivial
theorem main1.tw10588870798482775255 : True := trivial
theorem main1.tw10600123396117817335 : True := trivial
theorem main1.tw10602078898927376701 : True := trivial
theorem main1.tw10644818844377278107 : True := trivial
theorem main1.tw10690893132172986653 : True := trivial
theorem main1.tw10703455502947676879 : True := trivial
theorem main1.tw10725469426864692156 : True := trivial
theorem main1.tw10740448564310853209 : True := trivial
theorem main1.tw10746637178197834895 : True := trivial
theorem main1.tw10750171920552337083 : True := trivial
theorem main1.tw10761041887268100742 : True := trivial
theorem main1.tw10763667912236739709 : True := trivial
theorem main1.tw10770467245255626116 : True := trivial
theorem main1.tw10772324880316207500 : True := trivial
theorem main1.tw10773794418219592808 : True := trivial
theorem main1.tw10833327071935672662 : True := trivial
theorem main1.tw10840608729968367057 : True := trivial
theorem main1.tw10842446171019043956 : True := trivial
theorem main1.tw10844241772646186556 : True := trivial
theorem main1.tw10857115586969088595 : True := trivial
theorem main1.tw10891713673275122892 : True := trivial
theorem main1.tw11012790456357824749 : True := trivial
theorem main1.tw11026514384742202581 : True := trivial
theorem main1.tw11033519631047185720 : True := trivial
theorem main1.tw11033642242342685172 : True := trivial
theorem main1.tw11083871384230095054 : True := trivial
theorem main1.tw11121385252255836332 : True := trivial
theorem main1.tw11135261228128345769 : True := trivial
theorem main1.tw11137471308395649615 : True := trivial
theorem main1.tw11159430838388747508 : True := trivial
theorem main1.tw11163729207735580450 : True := trivial
theorem main1.tw1118736928331185720 : True := trivial
theorem main1.tw11222632827624666586 : True := trivial
theorem main1.tw11243761060884910731 : True := trivial
theorem main1.tw11277531018892263675 : True := trivial
theorem main1.tw11283675362606359172 : True := trivial
theorem main1.tw11370639764097659079 : True := trivial
theorem main1.tw11407314119271877473 : True := trivial
theorem main1.tw11411720003918687622 : True := trivial
theorem main1.tw11441912786601187850 : True := trivial
theorem main1.tw11459808101431613087 : True := trivial
theorem main1.tw11463174893369873710 : True := trivial
theorem main1.tw11464199297379356854 : True := trivial
theorem main1.tw1147652976528144699 : True := trivial
theorem main1.tw11484647654808997285 : True := trivial
theorem main1.tw1149370495954266922 : True := trivial
theorem main1.tw11493775888174289290 : True := trivial
theorem main1.tw11534414442284493264 : True := trivial
theorem main1.tw11536057970949181315 : True := trivial
theorem main1.tw11540386440126245431 : True := trivial
theorem main1.tw11577204012616181854 : True := trivial
theorem main1.tw11626228239725663510 : True := trivial
theorem main1.tw11638040764285168639 : True := trivial
theorem main1.tw1168273471031863888 : True := trivial
theorem main1.tw11690457367919325971 : True := trivial
theorem main1.tw11693414994041290878 : True := trivial
theorem main1.tw11717734113381968864 : True := trivial
theorem main1.tw11758335964064271784 : True := trivial
theorem main1.tw11759002457531658314 : True := trivial
theorem main1.tw11760380673533066971 : True := trivial
theorem main1.tw11776976559814095273 : True := trivial
theorem main1.tw11801626415493989297 : True := trivial
theorem main1.tw11807263490327683901 : True := trivial
theorem main1.tw11831626884697334572 : True := trivial
theorem main1.tw1183925983471099656 : True := trivial
theorem main1.tw11849075239536738687 : True := trivial
theorem main1.tw11856480999768332273 : True := trivial
theorem main1.tw11857807658939384895 : True := trivial
theorem main1.tw11879405014500982136 : True := trivial
theorem main1.tw11895078059937147251 : True := trivial
theorem main1.tw11905506886430419895 : True := trivial
theorem main1.tw11917883077994322658 : True := trivial
theorem main1.tw11939000177159678120 : True := trivial
theorem main1.tw11951791465234900050 : True := trivial
theorem main1.tw11964811400018533393 : True := trivial
theorem main1.tw11990806672436752966 : True := trivial
theorem main1.tw12033755580116310413 : True := trivial
theorem main1.tw1216442481535847168 : True := trivial
theorem main1.tw12196281740093317906 : True := trivial
theorem main1.tw12200327252708983294 : True := trivial
theorem main1.tw12203794363885003451 : True := trivial
theorem main1.tw12209429896707526102 : True := trivial
theorem main1.tw1222386958341188422 : True := trivial
theorem main1.tw12225948786980839662 : True := trivial
theorem main1.tw12241566720356281163 : True := trivial
theorem main1.tw12287016310172226758 : True := trivial
theorem main1.tw12289697862801014902 : True := trivial
theorem main1.tw12340720965740878614 : True := trivial
theorem main1.tw1234352444233284316 : True := trivial
theorem main1.tw12368771739466004322 : True := trivial
theorem main1.tw12375615169707491685 : True := trivial
theorem main1.tw12391451558908937510 : True := trivial
theorem main1.tw12392000744987604701 : True := trivial
theorem main1.tw12417668060643699355 : True := trivial
theorem main1.tw1241923517854147642 : True := trivial
theorem main1.tw12436726533590930401 : True := trivial
theorem main1.tw12451291626017590463 : True := trivial
theorem main1.tw12464872000316800626 : True := trivial
theorem main1.tw12470458512409039547 : True := trivial
theorem main1.tw12482214484519660005 : True := trivial
theorem main1.tw12486856891220202153 : True := trivial
theorem main1.tw12502087952989674742 : True := trivial
theorem main1.tw12502585192902103576 : True := trivial
theorem main1.tw12506633708919665873 : True := trivial
theorem main1.tw12510542884456979271 : True := trivial
theorem main1.tw12574039379324802134 : True := trivial
theorem main1.tw1257703037562696247 : True := trivial
theorem main1.tw12601568678082300577 : True := trivial
theorem main1.tw12620869238047721475 : True := trivial
theorem main1.tw12631116093796557579 : True := trivial
theorem main1.tw12636096818618854549 : True := trivial
theorem main1.tw12644607801378594576 : True := trivial
theorem main1.tw12649667573093070100 : True := trivial
theorem main1.tw12663796596130583882 : True := trivial
theorem main1.tw12665426447331816213 : True := trivial
theorem main1.tw12685791641128183225 : True := trivial
theorem main1.tw12686026340400370653 : True := trivial
theorem main1.tw12702064655631711979 : True := trivial
theorem main1.tw12717113237664275920 : True := trivial
theorem main1.tw12722062440037880726 : True := trivial
theorem main1.tw12722234133273372161 : True := trivial
theorem main1.tw1274780183026402571 : True := trivial
theorem main1.tw1274828755747367608 : True := trivial
theorem main1.tw12752046517268772314 : True := trivial
theorem main1.tw12760837066178391945 : True := trivial
theorem main1.tw1276433329928311555 : True := trivial
theorem main1.tw12776786757977537845 : True := trivial
theorem main1.tw12807342058205168450 : True := trivial
theorem main1.tw12812002014044500950 : True := trivial
theorem main1.tw12815113801663251690 : True := trivial
theorem main1.tw12829361459266736762 : True := trivial
theorem main1.tw12832907449520880697 : True := trivial
theorem main1.tw1284722866702463769 : True := trivial
theorem main1.tw12853450281944508754 : True := trivial
theorem main1.tw12875009188655041740 : True := trivial
theorem main1.tw12888520612855832405 : True := trivial
theorem main1.tw12896409907034207468 : True := trivial
theorem main1.tw12899548714512825206 : True := trivial
theorem main1.tw12923331901240555661 : True := trivial
theorem main1.tw12926593827110475725 : True := trivial
theorem main1.tw12933912678499629668 : True := trivial
theorem main1.tw12969077341721131061 : True := trivial
theorem main1.tw12974876160140864736 : True := trivial
theorem main1.tw12986832653230022153 : True := trivial
theorem main1.tw12989886596557624631 : True := trivial
theorem main1.tw12997640031725706546 : True := trivial
theorem main1.tw12999755014931809296 : True := trivial
theorem main1.tw13009821805194103799 : True := trivial
theorem main1.tw13015239244354042202 : True := trivial
theorem main1.tw13018990878906611082 : True := trivial
theorem main1.tw13027546524219735539 : True := trivial
theorem main1.tw13034251555656263710 : True := trivial
theorem main1.tw13041706326891075158 : True := trivial
theorem main1.tw13047118576672866001 : True := trivial
theorem main1.tw13072840957083059123 : True := trivial
theorem main1.tw13075807883474035690 : True := trivial
theorem main1.tw13078519038381065211 : True := trivial
theorem main1.tw1308685804822629570 : True := trivial
theorem main1.tw1308899353273438049 : True := trivial
theorem main1.tw13132613870904483116 : True := trivial
theorem main1.tw13135446074268395347 : True := trivial
theorem main1.tw13162363120669991025 : True := trivial
theorem main1.tw13170674618529310204 : True := trivial
theorem main1.tw13171160863397300550 : True := trivial
theorem main1.tw13178129300875328345 : True := trivial
theorem main1.tw13197757261932946097 : True := trivial
theorem main1.tw13233642498234308388 : True := trivial
theorem main1.tw13243961536193236059 : True := trivial
theorem main1.tw13257832446227377273 : True := trivial
theorem main1.tw1331704011654016277 : True := trivial
theorem main1.tw13319379810251396710 : True := trivial
theorem main1.tw13328614299777328363 : True := trivial
theorem main1.tw13348725570595839853 : True := trivial
theorem main1.tw13355820006054140727 : True := trivial
theorem main1.tw13373309583507528179 : True := trivial
theorem main1.tw13375709447583254840 : True := trivial
theorem main1.tw133790008638554699 : True := trivial
theorem main1.tw13404579526512092994 : True := trivial
theorem main1.tw13410310617136539934 : True := trivial
theorem main1.tw13423032959353361460 : True := trivial
theorem main1.tw13439218604625322122 : True := trivial
theorem main1.tw13501659373746861177 : True := trivial
theorem main1.tw13522311597283177574 : True := trivial
theorem main1.tw13522482736442760041 : True := trivial
theorem main1.tw13532308851102834318 : True := trivial
theorem main1.tw13537931080296860675 : True := trivial
theorem main1.tw13585426791785444455 : True := trivial
theorem main1.tw13598062034253644460 : True := trivial
theorem main1.tw13601731481203295283 : True := trivial
theorem main1.tw136038840078138177 : True := trivial
theorem main1.tw13612878703497687822 : True := trivial
theorem main1.tw13622314895043894257 : True := trivial
theorem main1.tw13646151290615312101 : True := trivial
theorem main1.tw13660778281554112711 : True := trivial
theorem main1.tw13669751108677307763 : True := trivial
theorem main1.tw1367416136485182202 : True := trivial
theorem main1.tw13708472348527123367 : True := trivial
theorem main1.tw13743289803707965910 : True := trivial
theorem main1.tw13749849660138890297 : True := trivial
theorem main1.tw13811287471333813465 : True := trivial
theorem main1.tw13824600515103923585 : True := trivial
theorem main1.tw13854223828569827635 : True := trivial
theorem main1.tw13859008560697852854 : True := trivial
theorem main1.tw1391324020584740582 : True := trivial
theorem main1.tw13918022416649652098 : True := trivial
theorem main1.tw13919176873644745398 : True := trivial
theorem main1.tw13924167328434566468 : True := trivial
theorem main1.tw13925687994567358001 : True := trivial
theorem main1.tw13927130429149492098 : True := trivial
theorem main1.tw13979312830465363212 : True := trivial
theorem main1.tw14006686952076923122 : True := trivial
theorem main1.tw14009017624997915036 : True := trivial
theorem main1.tw14030293046461210458 : True := trivial
theorem main1.tw14042359343566034087 : True := trivial
theorem main1.tw14064933759699664198 : True := trivial
theorem main1.tw14114352488476458178 : True := trivial
theorem main1.tw14124885403243239946 : True := trivial
theorem main1.tw14131970535457426501 : True := trivial
theorem main1.tw14150491816879612747 : True := trivial
theorem main1.tw14174565621502925806 : True := trivial
theorem main1.tw14224637396146928960 : True := trivial
theorem main1.tw1422830168488272843 : True := trivial
theorem main1.tw14281937995732335607 : True := trivial
theorem main1.tw1430089982716807831 : True := trivial
theorem main1.tw14310409384011468533 : True := trivial
theorem main1.tw14318058567223925041 : True := trivial
theorem main1.tw14322267535881659801 : True := trivial
theorem main1.tw14330897910858804150 : True := trivial
theorem main1.tw14331915712834311707 : True := trivial
theorem main1.tw14337542848365029735 : True := trivial
theorem main1.tw14341781251375279535 : True := trivial
theorem main1.tw14350901021069226480 : True := trivial
theorem main1.tw14361315679692040263 : True := trivial
theorem main1.tw14364151290440570673 : True := trivial
theorem main1.tw14383071026712460593 : True := trivial
theorem main1.tw14388615958008960611 : True := trivial
theorem main1.tw14392479023724191634 : True := trivial
theorem main1.tw14403819072023873701 : True := trivial
theorem main1.tw1441577052268903409 : True := trivial
theorem main1.tw14421367133660943369 : True := trivial
theorem main1.tw14422318480540970561 : True := trivial
theorem main1.tw14433796070833499448 : True := trivial
theorem main1.tw14444874148980537081 : True := trivial
theorem main1.tw14448533647207213138 : True := trivial
theorem main1.tw14472929371180560296 : True := trivial
theorem main1.tw1447403674812041496 : True := trivial
theorem main1.tw1450942910562440143 : True := trivial
theorem main1.tw14522744737190232500 : True := trivial
theorem main1.tw14530666938930652761 : True := trivial
theorem main1.tw14535942747332631038 : True := trivial
theorem main1.tw14551774291268561894 : True := trivial
theorem main1.tw14553772831945332719 : True := trivial
theorem main1.tw14570445697206083688 : True := trivial
theorem main1.tw1458806944168299350 : True := trivial
theorem main1.tw14602263117371783968 : True := trivial
theorem main1.tw14602381904871729730 : True := trivial
theorem main1.tw14605926203136043712 : True := trivial
theorem main1.tw14609612101941368398 : True := trivial
theorem main1.tw14622055007155365660 : True := trivial
theorem main1.tw14627506767120111262 : True := trivial
theorem main1.tw14627604420320697424 : True := trivial
theorem main1.tw14629235723474449034 : True := trivial
theorem main1.tw14633078321030641826 : True := trivial
theorem main1.tw1463844592486939906 : True := trivial
theorem main1.tw14644164854548175508 : True := trivial
theorem main1.tw14650250417986480873 : True := trivial
theorem main1.tw14657664923537810063 : True := trivial
theorem main1.tw1467164171704872876 : True := trivial
theorem main1.tw14672517933990849902 : True := trivial
theorem main1.tw14679856591328766542 : True := trivial
theorem main1.tw1469011154602799919 : True := trivial
theorem main1.tw14698706805308757882 : True := trivial
theorem main1.tw14712262896747026146 : True := trivial
theorem main1.tw14728459865722733499 : True := trivial
theorem main1.tw14747201369736465990 : True := trivial
theorem main1.tw14755647201710142832 : True := trivial
theorem main1.tw14788285719653537441 : True := trivial
theorem main1.tw14815698636684337969 : True := trivial
theorem main1.tw14863693732074906017 : True := trivial
theorem main1.tw14872366823121581664 : True := trivial
theorem main1.tw14894125000078447181 : True := trivial
theorem main1.tw14902195549599477158 : True := trivial
theorem main1.tw14906620439681214750 : True := trivial
theorem main1.tw1495638025520689073 : True := trivial
theorem main1.tw14984536502579936937 : True := trivial
theorem main1.tw15011842224133518630 : True := trivial
theorem main1.tw15016360503452354488 : True := trivial
theorem main1.tw15017510339007598148 : True := trivial
theorem main1.tw1507289940639365189 : True := trivial
theorem main1.tw15084034211329850147 : True := trivial
theorem main1.tw15132739217419985499 : True := trivial
theorem main1.tw15156129615689063100 : True := trivial
theorem main1.tw15167996978141041192 : True := trivial
theorem main1.tw15184078177891848907 : True := trivial
theorem main1.tw15202428223676654194 : True := trivial
theorem main1.tw15258546067561999331 : True := trivial
theorem main1.tw15268055510499367232 : True := trivial
theorem main1.tw15271938264594714474 : True := trivial
theorem main1.tw15272426668969503410 : True := trivial
theorem main1.tw15318485336991347036 : True := trivial
theorem main1.tw15325650657817523080 : True := trivial
theorem main1.tw15328674949185467561 : True := trivial
theorem main1.tw15347999525552584977 : True := trivial
theorem main1.tw15354930247050550410 : True := trivial
theorem main1.tw15355975027795248317 : True := trivial
theorem main1.tw15362646851136156032 : True := trivial
theorem main1.tw15366069384944835862 : True := trivial
theorem main1.tw15373370641150482869 : True := trivial
theorem main1.tw15393761459496056920 : True := trivial
theorem main1.tw15401922549856630703 : True := trivial
theorem main1.tw15405040230162328566 : True := trivial
theorem main1.tw15422021675573626269 : True := trivial
theorem main1.tw15470556424688095371 : True := trivial
theorem main1.tw15479226098264971140 : True := trivial
theorem main1.tw15485343245395609507 : True := trivial
theorem main1.tw15493805033039920949 : True := trivial
theorem main1.tw15497191703586283784 : True := trivial
theorem main1.tw15499807880451777139 : True := trivial
theorem main1.tw15506429982591857015 : True := trivial
theorem main1.tw15509135966402686280 : True := trivial
theorem main1.tw15514305210588172601 : True := trivial
theorem main1.tw15522887565616964818 : True := trivial
theorem main1.tw15527109251479377966 : True := trivial
theorem main1.tw15542854696198582863 : True := trivial
theorem main1.tw15564404408663411919 : True := trivial
theorem main1.tw15568745031869950296 : True := trivial
theorem main1.tw15571361016699225643 : True := trivial
theorem main1.tw15581706049011501831 : True := trivial
theorem main1.tw15588241308061327046 : True := trivial
theorem main1.tw1559217118745661730 : True := trivial
theorem main1.tw15595218779106044465 : True := trivial
theorem main1.tw15599572517059882621 : True := trivial
theorem main1.tw15610694245076476618 : True := trivial
theorem main1.tw15613001763434434442 : True := trivial
theorem main1.tw15620639499742148996 : True := trivial
theorem main1.tw15622289525808392092 : True := trivial
theorem main1.tw15626767991035841023 : True := trivial
theorem main1.tw15636301181956957100 : True := trivial
theorem main1.tw15637024042074465883 : True := trivial
theorem main1.tw15647435603735862847 : True := trivial
theorem main1.tw15660368485971834270 : True := trivial
theorem main1.tw1566238181834962501 : True := trivial
theorem main1.tw15665051788470424030 : True := trivial
theorem main1.tw156684264745637334 : True := trivial
theorem main1.tw15672090004431630645 : True := trivial
theorem main1.tw15682499098881617077 : True := trivial
theorem main1.tw15707359848414613169 : True := trivial
theorem main1.tw15721149281756407719 : True := trivial
theorem main1.tw15740291599080779092 : True := trivial
theorem main1.tw1574553338446350033 : True := trivial
theorem main1.tw15750273026448348880 : True := trivial
theorem main1.tw15759936412795281698 : True := trivial
theorem main1.tw15771244182929113025 : True := trivial
theorem main1.tw15788534575043936698 : True := trivial
theorem main1.tw15794154371150770632 : True := trivial
theorem main1.tw15804401085262171563 : True := trivial
theorem main1.tw15809258290492405000 : True := trivial
theorem main1.tw15821418938522469464 : True := trivial
theorem main1.tw15836055862515876025 : True := trivial
theorem main1.tw15841679191098194177 : True := trivial
theorem main1.tw15844687660474216765 : True := trivial
theorem main1.tw1585415872669971462 : True := trivial
theorem main1.tw15856938158329721199 : True := trivial
theorem main1.tw15899989287394824284 : True := trivial
theorem main1.tw1590140991823205126 : True := trivial
theorem main1.tw15905992560834694180 : True := trivial
theorem main1.tw15909814930412210820 : True := trivial
theorem main1.tw15915399857074115845 : True := trivial
theorem main1.tw159529999221706748 : True := trivial
theorem main1.tw15959903740888821903 : True := trivial
theorem main1.tw15975239790398705857 : True := trivial
theorem main1.tw15984784824576267119 : True := trivial
theorem main1.tw15985546920438510063 : True := trivial
theorem main1.tw15988386760537906722 : True := trivial
theorem main1.tw15990070029831386061 : True := trivial
theorem main1.tw15993581307132079203 : True := trivial
theorem main1.tw15995389448730163598 : True := trivial
theorem main1.tw16003710144680991952 : True := trivial
theorem main1.tw16008098631088188830 : True := trivial
theorem main1.tw16010342631539458464 : True := trivial
theorem main1.tw16017460597044954327 : True := trivial
theorem main1.tw16023357541878636205 : True := trivial
theorem main1.tw16030389382437445119 : True := trivial
theorem main1.tw16038609449198154225 : True := trivial
theorem main1.tw16038622826913568847 : True := trivial
theorem main1.tw1603938056973579358 : True := trivial
theorem main1.tw16045431621196699545 : True := trivial
theorem main1.tw1605246033464836331 : True := trivial
theorem main1.tw16057308337780578087 : True := trivial
theorem main1.tw16057677096253855851 : True := trivial
theorem main1.tw16072845406923066013 : True := trivial
theorem main1.tw1607943357624924891 : True := trivial
theorem main1.tw16079585107583976716 : True := trivial
theorem main1.tw1609555060734767432 : True := trivial
theorem main1.tw16108373488489617843 : True := trivial
theorem main1.tw16115139083409607821 : True := trivial
theorem main1.tw16145880370675487153 : True := trivial
theorem main1.tw16147121768278948073 : True := trivial
theorem main1.tw16205202998734690220 : True := trivial
theorem main1.tw16224772878505892375 : True := trivial
theorem main1.tw16239610646309555950 : True := trivial
theorem main1.tw16250287680964566125 : True := trivial
theorem main1.tw16265843745005099417 : True := trivial
theorem main1.tw16280441157059403319 : True := trivial
theorem main1.tw16281005204582951436 : True := trivial
theorem main1.tw16285921730736171494 : True := trivial
theorem main1.tw16287486524393312853 : True := trivial
theorem main1.tw16300862180282826992 : True := trivial
theorem main1.tw16305743107744700052 : True := trivial
theorem main1.tw16311275894484387936 : True := trivial
theorem main1.tw16331054340745891388 : True := trivial
theorem main1.tw16333347943190545933 : True := trivial
theorem main1.tw16333584950417979246 : True := trivial
theorem main1.tw1633554407869499596 : True := trivial
theorem main1.tw16345958733696312855 : True := trivial
theorem main1.tw16352115188904874274 : True := trivial
theorem main1.tw16386429020146092810 : True := trivial
theorem main1.tw16440620245708334939 : True := trivial
theorem main1.tw16441559417588409771 : True := trivial
theorem main1.tw16459886214775777737 : True := trivial
theorem main1.tw16466995389925590918 : True := trivial
theorem main1.tw1646758403617631083 : True := trivial
theorem main1.tw16468181732611900203 : True := trivial
theorem main1.tw16473413281595633190 : True := trivial
theorem main1.tw16491821899223007817 : True := trivial
theorem main1.tw1650490848116074556 : True := trivial
theorem main1.tw16509457882482909891 : True := trivial
theorem main1.tw16524254677602035026 : True := trivial
theorem main1.tw16562648452343193701 : True := trivial
theorem main1.tw16567504088948112164 : True := trivial
theorem main1.tw16571820995602839509 : True := trivial
theorem main1.tw1657185074356647998 : True := trivial
theorem main1.tw16574304972644420919 : True := trivial
theorem main1.tw16576064015788623090 : True := trivial
theorem main1.tw16582505483397727319 : True := trivial
theorem main1.tw16591889644355098599 : True := trivial
theorem main1.tw16634887085117928998 : True := trivial
theorem main1.tw16641347491673021884 : True := trivial
theorem main1.tw16642092516648566944 : True := trivial
theorem main1.tw16703393063990659147 : True := trivial
theorem main1.tw1670991970279073486 : True := trivial
theorem main1.tw16721034609233981981 : True := trivial
theorem main1.tw16723167378736694600 : True := trivial
theorem main1.tw16747108502180816783 : True := trivial
theorem main1.tw16752727629974882640 : True := trivial
theorem main1.tw16756007730987410668 : True := trivial
theorem main1.tw16776749125343373954 : True := trivial
theorem main1.tw16810565996003147054 : True := trivial
theorem main1.tw16841206610988490431 : True := trivial
theorem main1.tw16849264651391724228 : True := trivial
theorem main1.tw16887985166399019864 : True := trivial
theorem main1.tw16888209546440436290 : True := trivial
theorem main1.tw16889288089717382256 : True := trivial
theorem main1.tw16890358381397504378 : True := trivial
theorem main1.tw16920124584073621343 : True := trivial
theorem main1.tw16920860029307625484 : True := trivial
theorem main1.tw16923339421679268869 : True := trivial
theorem main1.tw16934626089424673701 : True := trivial
theorem main1.tw16946815508498285160 : True := trivial
theorem main1.tw16954070093262859441 : True := trivial
theorem main1.tw16975846731934149722 : True := trivial
theorem main1.tw16977963499615235777 : True := trivial
theorem main1.tw17001063746286482179 : True := trivial
theorem main1.tw17010280775459788945 : True := trivial
theorem main1.tw17012845599790534891 : True := trivial
theorem main1.tw17026928579565390352 : True := trivial
theorem main1.tw17064038115813428366 : True := trivial
theorem main1.tw17066216674511360931 : True := trivial
theorem main1.tw17099461614768780664 : True := trivial
theorem main1.tw17140753000538097216 : True := trivial
theorem main1.tw17163552574206051313 : True := trivial
theorem main1.tw17175296908365762032 : True := trivial
theorem main1.tw17193361971273276912 : True := trivial
theorem main1.tw17193371803477640825 : True := trivial
theorem main1.tw17215783695055284286 : True := trivial
theorem main1.tw17224467759531434997 : True := trivial
theorem main1.tw17235825786717672424 : True := trivial
theorem main1.tw17240691989513751607 : True := trivial
theorem main1.tw17267373685240814445 : True := trivial
theorem main1.tw17268944268160971246 : True := trivial
theorem main1.tw17283592217187247336 : True := trivial
theorem main1.tw17290380898710906795 : True := trivial
theorem main1.tw17329634797966762357 : True := trivial
theorem main1.tw17332629913629439403 : True := trivial
theorem main1.tw17337469138619351253 : True := trivial
theorem main1.tw17360480877726212839 : True := trivial
theorem main1.tw17365404731525863235 : True := trivial
theorem main1.tw17401444845507373839 : True := trivial
theorem main1.tw17416909625687349490 : True := trivial
theorem main1.tw17449415143726504657 : True := trivial
theorem main1.tw17462287774800448040 : True := trivial
theorem main1.tw17464738422201390113 : True := trivial
theorem main1.tw1751879486830154578 : True := trivial
theorem main1.tw17522012739385761487 : True := trivial
theorem main1.tw17528960261074696458 : True := trivial
theorem main1.tw17531068711580276676 : True := trivial
theorem main1.tw17549947735227300343 : True := trivial
theorem main1.tw17552422739706226138 : True := trivial
theorem main1.tw17557676011685412550 : True := trivial
theorem main1.tw17558086635077165108 : True := trivial
theorem main1.tw17565817708687753477 : True := trivial
theorem main1.tw17570578685175750626 : True := trivial
theorem main1.tw17577619910239857444 : True := trivial
theorem main1.tw17601037315634141981 : True := trivial
theorem main1.tw17601924125578680435 : True := trivial
theorem main1.tw1761908798803538170 : True := trivial
theorem main1.tw17628899497040616823 : True := trivial
theorem main1.tw17635906840100184708 : True := trivial
theorem main1.tw17700762238846694009 : True := trivial
theorem main1.tw1770211972096874606 : True := trivial
theorem main1.tw17705211880447124246 : True := trivial
theorem main1.tw17709628854459329592 : True := trivial
theorem main1.tw17726533110149992534 : True := trivial
theorem main1.tw17731601208111006200 : True := trivial
theorem main1.tw17748912403217155761 : True := trivial
theorem main1.tw17752468464176610161 : True := trivial
theorem main1.tw17755770300272799060 : True := trivial
theorem main1.tw17791940192092872603 : True := trivial
theorem main1.tw17795114986570516116 : True := trivial
theorem main1.tw17800853465518528414 : True := trivial
theorem main1.tw17807216840535125470 : True := trivial
theorem main1.tw17808906656984863855 : True := trivial
theorem main1.tw17849172928413995919 : True := trivial
theorem main1.tw17850963020768093310 : True := trivial
theorem main1.tw17852450518375974530 : True := trivial
theorem main1.tw17876322761047939102 : True := trivial
theorem main1.tw17897689048736620889 : True := trivial
theorem main1.tw1791008372256908269 : True := trivial
theorem main1.tw17927891200561971260 : True := trivial
theorem main1.tw17941222729216886702 : True := trivial
theorem main1.tw17984336106102722598 : True := trivial
theorem main1.tw17988982929006710420 : True := trivial
theorem main1.tw17996212373729036053 : True := trivial
theorem main1.tw18001142511460803949 : True := trivial
theorem main1.tw1800982081810367484 : True := trivial
theorem main1.tw18014754439834073581 : True := trivial
theorem main1.tw18044836883937590595 : True := trivial
theorem main1.tw18052433892750575315 : True := trivial
theorem main1.tw18059124513361518873 : True := trivial
theorem main1.tw18073487302102401304 : True := trivial
theorem main1.tw18098960468299897099 : True := trivial
theorem main1.tw18100194457954281970 : True := trivial
theorem main1.tw18119542911540409476 : True := trivial
theorem main1.tw18131665207224678248 : True := trivial
theorem main1.tw18172178193020772026 : True := trivial
theorem main1.tw18225919690111948770 : True := trivial
theorem main1.tw18232645080471960401 : True := trivial
theorem main1.tw18233367775166455840 : True := trivial
theorem main1.tw18265591322954925769 : True := trivial
theorem main1.tw18272969074749481904 : True := trivial
theorem main1.tw18311794026754894770 : True := trivial
theorem main1.tw18316565229152053811 : True := trivial
theorem main1.tw18318008584346045896 : True := trivial
theorem main1.tw18324269287223330795 : True := trivial
theorem main1.tw18361178364548583606 : True := trivial
theorem main1.tw18365069293170614174 : True := trivial
theorem main1.tw18367872842673262104 : True := trivial
theorem main1.tw18393418276560323035 : True := trivial
theorem main1.tw18415257124252173758 : True := trivial
theorem main1.tw1845440136707234855 : True := trivial
theorem main1.tw1847455936297750382 : True := trivial
theorem main1.tw1856115152644144685 : True := trivial
theorem main1.tw1865652749212784187 : True := trivial
theorem main1.tw1881000242118337056 : True := trivial
theorem main1.tw1899198293687682799 : True := trivial
theorem main1.tw1907905991913180567 : True := trivial
theorem main1.tw191268614046100687 : True := trivial
theorem main1.tw1917173009225089078 : True := trivial
theorem main1.tw1929927387046851058 : True := trivial
theorem main1.tw1932863145608171080 : True := trivial
theorem main1.tw1943578158353564283 : True := trivial
theorem main1.tw1968825017999272028 : True := trivial
theorem main1.tw1995491860447857273 : True := trivial
theorem main1.tw1998582227094820741 : True := trivial
theorem main1.tw2024151489694880274 : True := trivial
theorem main1.tw2028570426018369575 : True := trivial
theorem main1.tw2043152183526613643 : True := trivial
theorem main1.tw20498734947850359 : True := trivial
theorem main1.tw2062049378233314697 : True := trivial
theorem main1.tw206228848547358463 : True := trivial
theorem main1.tw2074679660118547195 : True := trivial
theorem main1.tw2108019484052585715 : True := trivial
theorem main1.tw2112719202182124062 : True := trivial
theorem main1.tw2117031284225629924 : True := trivial
theorem main1.tw2151136402521454399 : True := trivial
theorem main1.tw2154404506128244517 : True := trivial
theorem main1.tw2158491123814661465 : True := trivial
theorem main1.tw2162283537174283135 : True := trivial
theorem main1.tw2171558313850687844 : True := trivial
theorem main1.tw2203631552247941373 : True := trivial
theorem main1.tw2227225930527560051 : True := trivial
theorem main1.tw2228084824832433086 : True := trivial
theorem main1.tw2239892356633741489 : True := trivial
theorem main1.tw2261993408431928668 : True := trivial
theorem main1.tw2273041194379106140 : True := trivial
theorem main1.tw230347121413265956 : True := trivial
theorem main1.tw23144998390663027 : True := trivial
theorem main1.tw2321577678876592027 : True := trivial
theorem main1.tw2379131928931895629 : True := trivial
theorem main1.tw2390726115085224796 : True := trivial
theorem main1.tw2424074659582506581 : True := trivial
theorem main1.tw245337051920783042 : True := trivial
theorem main1.tw245607718162088315 : True := trivial
theorem main1.tw2458355949290820209 : True := trivial
theorem main1.tw2484491375627213583 : True := trivial
theorem main1.tw2494309851643008582 : True := trivial
theorem main1.tw2506551665834745440 : True := trivial
theorem main1.tw2519022488907548497 : True := trivial
theorem main1.tw2520523266514233382 : True := trivial
theorem main1.tw2526133827495279463 : True := trivial
theorem main1.tw2541031189121669005 : True := trivial
theorem main1.tw2542324976934243820 : True := trivial
theorem main1.tw2564510045199131385 : True := trivial
theorem main1.tw2569606741985961 : True := trivial
theorem main1.tw2577377771292370135 : True := trivial
theorem main1.tw2577737315204305801 : True := trivial
theorem main1.tw2589927332204204334 : True := trivial
theorem main1.tw2598610047121304883 : True := trivial
theorem main1.tw2599957585895203683 : True := trivial
theorem main1.tw2616171235819033954 : True := trivial
theorem main1.tw2644768542502279018 : True := trivial
theorem main1.tw2658744662890439846 : True := trivial
theorem main1.tw2658916976417053920 : True := trivial
theorem main1.tw2686057397568476534 : True := trivial
theorem main1.tw2692066785892744155 : True := trivial
theorem main1.tw2694832275641185095 : True := trivial
theorem main1.tw2707679517272734868 : True := trivial
theorem main1.tw2715745725740467221 : True := trivial
theorem main1.tw276270967926974951 : True := trivial
theorem main1.tw2786012956871249523 : True := trivial
theorem main1.tw2799214519680972041 : True := trivial
theorem main1.tw2817930092690895772 : True := trivial
theorem main1.tw2845096848190506395 : True := trivial
theorem main1.tw2846088391734243627 : True := trivial
theorem main1.tw2850631295348662383 : True := trivial
theorem main1.tw2858233670902345837 : True := trivial
theorem main1.tw2869482015208431271 : True := trivial
theorem main1.tw2878083206096372575 : True := trivial
theorem main1.tw2887792296333551244 : True := trivial
theorem main1.tw2893969901813867310 : True := trivial
theorem main1.tw2898006264482206107 : True := trivial
theorem main1.tw2926385027171573331 : True := trivial
theorem main1.tw293079544084018876 : True := trivial
theorem main1.tw2935968243442539082 : True := trivial
theorem main1.tw2977862988316355297 : True := trivial
theorem main1.tw2981509365051104286 : True := trivial
theorem main1.tw2990424292552829550 : True := trivial
theorem main1.tw2996313337552349345 : True := trivial
theorem main1.tw3000469933732857187 : True := trivial
theorem main1.tw3011598925417149469 : True := trivial
theorem main1.tw301793641254180981 : True := trivial
theorem main1.tw3025538018063231699 : True := trivial
theorem main1.tw303129770603137313 : True := trivial
theorem main1.tw3054875365536662997 : True := trivial
theorem main1.tw3069577223208990096 : True := trivial
theorem main1.tw3073931949435241339 : True := trivial
theorem main1.tw3084066000962643286 : True := trivial
theorem main1.tw3087137764400183662 : True := trivial
theorem main1.tw3094878163132881149 : True := trivial
theorem main1.tw3104917739504820418 : True := trivial
theorem main1.tw314067463532849958 : True := trivial
theorem main1.tw3148962791203262059 : True := trivial
theorem main1.tw3154882519737937632 : True := trivial
theorem main1.tw3156238716833745606 : True := trivial
theorem main1.tw3177057851920695992 : True := trivial
theorem main1.tw3195247140726105542 : True := trivial
theorem main1.tw3195694800522049168 : True := trivial
theorem main1.tw3215692923672132230 : True := trivial
theorem main1.tw3241510614996705546 : True := trivial
theorem main1.tw3272882803358735329 : True := trivial
theorem main1.tw3288999138623237232 : True := trivial
theorem main1.tw3305851613998769718 : True := trivial
theorem main1.tw3307131182597939758 : True := trivial
theorem main1.tw332083536634754219 : True := trivial
theorem main1.tw3326627992997041393 : True := trivial
theorem main1.tw3326764704514933413 : True := trivial
theorem main1.tw3339848147638602857 : True := trivial
theorem main1.tw3374374924127376933 : True := trivial
theorem main1.tw3437061575316165382 : True := trivial
theorem main1.tw3443796612189474670 : True := trivial
theorem main1.tw3445237352344048579 : True := trivial
theorem main1.tw3460517171442417500 : True := trivial
theorem main1.tw354360309878376220 : True := trivial
theorem main1.tw3545585826420264939 : True := trivial
theorem main1.tw3550085767307708242 : True := trivial
theorem main1.tw3558737932203968635 : True := trivial
theorem main1.tw3562769959780741563 : True := trivial
theorem main1.tw3565793577928872137 : True := trivial
theorem main1.tw3584792178976655835 : True := trivial
theorem main1.tw3592585220852781855 : True := trivial
theorem main1.tw3601674102649880224 : True := trivial
theorem main1.tw3618742250363168629 : True := trivial
theorem main1.tw3626081117495688924 : True := trivial
theorem main1.tw3636275548047840414 : True := trivial
theorem main1.tw3636333203097220008 : True := trivial
theorem main1.tw3677871642386629533 : True := trivial
theorem main1.tw3698491322044174587 : True := trivial
theorem main1.tw3719403137423192146 : True := trivial
theorem main1.tw3745225999068677775 : True := trivial
theorem main1.tw3771782598182878040 : True := trivial
theorem main1.tw3821285499021865305 : True := trivial
theorem main1.tw383060060226756125 : True := trivial
theorem main1.tw3838060463374893576 : True := trivial
theorem main1.tw3849941933786471562 : True := trivial
theorem main1.tw3851527226309167810 : True := trivial
theorem main1.tw3859467690811367015 : True := trivial
theorem main1.tw3860690154947546412 : True := trivial
theorem main1.tw38645617834961190 : True := trivial
theorem main1.tw3883752090438349127 : True := trivial
theorem main1.tw3897569129796909428 : True := trivial
theorem main1.tw3899556614192205398 : True := trivial
theorem main1.tw3909710448734467886 : True := trivial
theorem main1.tw3916991666270874145 : True := trivial
theorem main1.tw3918465996185931739 : True := trivial
theorem main1.tw3926278725694950742 : True := trivial
theorem main1.tw392788906466275397 : True := trivial
theorem main1.tw3930620108648849955 : True := trivial
theorem main1.tw3982699944011681615 : True := trivial
theorem main1.tw3982718880067122268 : True := trivial
theorem main1.tw3985660467845231146 : True := trivial
theorem main1.tw398667724660447475 : True := trivial
theorem main1.tw4043190898034224591 : True := trivial
theorem main1.tw407322303860823000 : True := trivial
theorem main1.tw4094404491443921385 : True := trivial
theorem main1.tw4098755215332252873 : True := trivial
theorem main1.tw4117098227215083986 : True := trivial
theorem main1.tw4117562057316036236 : True := trivial
theorem main1.tw4120821269486064947 : True := trivial
theorem main1.tw4128305259005562739 : True := trivial
theorem main1.tw4130277663646246867 : True := trivial
theorem main1.tw4166597686730047723 : True := trivial
theorem main1.tw4173008971599069955 : True := trivial
theorem main1.tw4176967939535677594 : True := trivial
theorem main1.tw4179130052266100287 : True := trivial
theorem main1.tw4205185081465593634 : True := trivial
theorem main1.tw4256888264995722756 : True := trivial
theorem main1.tw4276087627560528343 : True := trivial
theorem main1.tw4287375862912005578 : True := trivial
theorem main1.tw4292766328458130688 : True := trivial
theorem main1.tw4303699749888218429 : True := trivial
theorem main1.tw4336518449281717492 : True := trivial
theorem main1.tw4341046497293805246 : True := trivial
theorem main1.tw4345899687778439477 : True := trivial
theorem main1.tw4354142817159954525 : True := trivial
theorem main1.tw4407160511577018516 : True := trivial
theorem main1.tw4415883029172704272 : True := trivial
theorem main1.tw441788421921454335 : True := trivial
theorem main1.tw4458071589389288164 : True := trivial
theorem main1.tw4458662451101517212 : True := trivial
theorem main1.tw4475700689180535646 : True := trivial
theorem main1.tw4478470648905884408 : True := trivial
theorem main1.tw4483195837528642363 : True := trivial
theorem main1.tw448408943841499586 : True := trivial
theorem main1.tw4510680230540924380 : True := trivial
theorem main1.tw4517402581127774757 : True := trivial
theorem main1.tw4540945670888592825 : True := trivial
theorem main1.tw4555140991441581421 : True := trivial
theorem main1.tw4598491794655908378 : True := trivial
theorem main1.tw4608090305351804556 : True := trivial
theorem main1.tw4620022149117515076 : True := trivial
theorem main1.tw4627607024880167557 : True := trivial
theorem main1.tw4630062012520918754 : True := trivial
theorem main1.tw4630950091767404528 : True := trivial
theorem main1.tw4637733792331627598 : True := trivial
theorem main1.tw4686475088549925392 : True := trivial
theorem main1.tw4709561216850689453 : True := trivial
theorem main1.tw4743086575188549651 : True := trivial
theorem main1.tw4773032634078142395 : True := trivial
theorem main1.tw4780991719377929758 : True := trivial
theorem main1.tw4783095376007456386 : True := trivial
theorem main1.tw4796698306297624541 : True := trivial
theorem main1.tw483673733811856457 : True := trivial
theorem main1.tw4841168724195967160 : True := trivial
theorem main1.tw4867225736409594684 : True := trivial
theorem main1.tw4890447612835129417 : True := trivial
theorem main1.tw4901072948534508140 : True := trivial
theorem main1.tw490815891048142345 : True := trivial
theorem main1.tw4953209340992059537 : True := trivial
theorem main1.tw4964405246765647899 : True := trivial
theorem main1.tw4977029339948819417 : True := trivial
theorem main1.tw4999853589497224509 : True := trivial
theorem main1.tw5003515234775982585 : True := trivial
theorem main1.tw5019885998392765554 : True := trivial
theorem main1.tw5027416118631238000 : True := trivial
theorem main1.tw5043754473917911611 : True := trivial
theorem main1.tw5049630639938774399 : True := trivial
theorem main1.tw5091761420050052291 : True := trivial
theorem main1.tw5097492285041550325 : True := trivial
theorem main1.tw5106803529986704148 : True := trivial
theorem main1.tw5141692735737294719 : True := trivial
theorem main1.tw5150128170624557161 : True := trivial
theorem main1.tw5152294318640392182 : True := trivial
theorem main1.tw5153307396376884754 : True := trivial
theorem main1.tw5205442510624377292 : True := trivial
theorem main1.tw5239614515791393204 : True := trivial
theorem main1.tw5243119073558807238 : True := trivial
theorem main1.tw5247252513934938725 : True := trivial
theorem main1.tw5266996855917154852 : True := trivial
theorem main1.tw5282013796336721503 : True := trivial
theorem main1.tw5284758299639933701 : True := trivial
theorem main1.tw5316863037243541156 : True := trivial
theorem main1.tw5341130979636322964 : True := trivial
theorem main1.tw5356616863996007087 : True := trivial
theorem main1.tw537381408803775554 : True := trivial
theorem main1.tw5387038222037216489 : True := trivial
theorem main1.tw5408695133937962591 : True := trivial
theorem main1.tw5410920610529636693 : True := trivial
theorem main1.tw541358704148702189 : True := trivial
theorem main1.tw5429384617076239506 : True := trivial
theorem main1.tw5431459960869328187 : True := trivial
theorem main1.tw5432637435808711480 : True := trivial
theorem main1.tw5434459023389269331 : True := trivial
theorem main1.tw5456427093623791128 : True := trivial
theorem main1.tw5459113962960414503 : True := trivial
theorem main1.tw5482949050048194048 : True := trivial
theorem main1.tw5490324912216856736 : True := trivial
theorem main1.tw5492718572262587886 : True := trivial
theorem main1.tw5499687374518917118 : True := trivial
theorem main1.tw5509395293621138468 : True := trivial
theorem main1.tw5561467953880696714 : True := trivial
theorem main1.tw5573247401021584607 : True := trivial
theorem main1.tw5576396034826046212 : True := trivial
theorem main1.tw5583132600208839495 : True := trivial
theorem main1.tw5598846756434401061 : True := trivial
theorem main1.tw5604712626496880825 : True := trivial
theorem main1.tw561711671995775663 : True := trivial
theorem main1.tw5621148010722089677 : True := trivial
theorem main1.tw5625941840424305021 : True := trivial
theorem main1.tw5627897124974086672 : True := trivial
theorem main1.tw5645346162372623367 : True := trivial
theorem main1.tw565220812693075249 : True := trivial
theorem main1.tw5684414518527656436 : True := trivial
theorem main1.tw5687953007712919668 : True := trivial
theorem main1.tw5690860626756679926 : True := trivial
theorem main1.tw5715291329301441470 : True := trivial
theorem main1.tw5715818645289645426 : True := trivial
theorem main1.tw5717855112296520441 : True := trivial
theorem main1.tw5758079234023134011 : True := trivial
theorem main1.tw5771671516735981487 : True := trivial
theorem main1.tw5783417052736836921 : True := trivial
theorem main1.tw5786534794415044822 : True := trivial
theorem main1.tw5794594353952227538 : True := trivial
theorem main1.tw5797391417045052812 : True := trivial
theorem main1.tw5819803072605782342 : True := trivial
theorem main1.tw5820328730643853216 : True := trivial
theorem main1.tw583711313838205836 : True := trivial
theorem main1.tw5861361302925315869 : True := trivial
theorem main1.tw5887810855431188014 : True := trivial
theorem main1.tw5947795562596709901 : True := trivial
theorem main1.tw5953969100771282283 : True := trivial
theorem main1.tw5959314992583168672 : True := trivial
theorem main1.tw5993224260850907930 : True := trivial
theorem main1.tw599464678567204611 : True := trivial
theorem main1.tw5998235847647467322 : True := trivial
theorem main1.tw6018498634696616752 : True := trivial
theorem main1.tw6030497346616119969 : True := trivial
theorem main1.tw6034935398177633715 : True := trivial
theorem main1.tw6048006671102223712 : True := trivial
theorem main1.tw6048714725078048670 : True := trivial
theorem main1.tw60585904363146484 : True := trivial
theorem main1.tw6061796395343264531 : True := trivial
theorem main1.tw6073841315224613910 : True := trivial
theorem main1.tw6074435039936037101 : True := trivial
theorem main1.tw6085384495960067885 : True := trivial
theorem main1.tw6085794447694160506 : True := trivial
theorem main1.tw6184295021033202561 : True := trivial
theorem main1.tw6187403437718599010 : True := trivial
theorem main1.tw6194551344779713683 : True := trivial
theorem main1.tw6214388244016612323 : True := trivial
theorem main1.tw621573279778021428 : True := trivial
theorem main1.tw6220784660658864214 : True := trivial
theorem main1.tw6246154545125836594 : True := trivial
theorem main1.tw6303493711516420193 : True := trivial
theorem main1.tw6312115649287988811 : True := trivial
theorem main1.tw633858041525136919 : True := trivial
theorem main1.tw6350599501455071346 : True := trivial
theorem main1.tw636399022582433987 : True := trivial
theorem main1.tw6382327038895326815 : True := trivial
theorem main1.tw6408518171742400910 : True := trivial
theorem main1.tw6443812704344587679 : True := trivial
theorem main1.tw6450495168722814961 : True := trivial
theorem main1.tw6460436847094848870 : True := trivial
theorem main1.tw6472237010065791970 : True := trivial
theorem main1.tw6497219218742617488 : True := trivial
theorem main1.tw6497905295154865978 : True := trivial
theorem main1.tw6510412464745989423 : True := trivial
theorem main1.tw6514124271544016746 : True := trivial
theorem main1.tw6557336243187611790 : True := trivial
theorem main1.tw6557854383184626082 : True := trivial
theorem main1.tw6624510366838721353 : True := trivial
theorem main1.tw6647201469736819965 : True := trivial
theorem main1.tw6650994969041905089 : True := trivial
theorem main1.tw6669501981063085049 : True := trivial
theorem main1.tw6671109909289714677 : True := trivial
theorem main1.tw6675919924289590106 : True := trivial
theorem main1.tw6680493329741809327 : True := trivial
theorem main1.tw6681144246676189662 : True := trivial
theorem main1.tw6688069619835346596 : True := trivial
theorem main1.tw6693898782419537425 : True := trivial
theorem main1.tw669968093716816594 : True := trivial
theorem main1.tw6724081077240927766 : True := trivial
theorem main1.tw6724833546882041091 : True := trivial
theorem main1.tw6727869834340282639 : True := trivial
theorem main1.tw673153500073807408 : True := trivial
theorem main1.tw6734326965096949087 : True := trivial
theorem main1.tw6756412394127188389 : True := trivial
theorem main1.tw6765696478547138039 : True := trivial
theorem main1.tw6767459197926513162 : True := trivial
theorem main1.tw6797112214342333393 : True := trivial
theorem main1.tw6797517924119891435 : True := trivial
theorem main1.tw6800219287759683161 : True := trivial
theorem main1.tw6805578949258202277 : True := trivial
theorem main1.tw6830935788620038638 : True := trivial
theorem main1.tw6849068360359116075 : True := trivial
theorem main1.tw6863836742177423454 : True := trivial
theorem main1.tw6899897762518708032 : True := trivial
theorem main1.tw6944701064203631758 : True := trivial
theorem main1.tw6947742275867125623 : True := trivial
theorem main1.tw6954028688030611643 : True := trivial
theorem main1.tw6962824824923451169 : True := trivial
theorem main1.tw6977658392959989577 : True := trivial
theorem main1.tw6981871852393709110 : True := trivial
theorem main1.tw6988719609427750937 : True := trivial
theorem main1.tw7021327731271212591 : True := trivial
theorem main1.tw7031250386544796110 : True := trivial
theorem main1.tw7042039185097084228 : True := trivial
theorem main1.tw7043446063424556045 : True := trivial
theorem main1.tw7048395585227849458 : True := trivial
theorem main1.tw7061373330959040859 : True := trivial
theorem main1.tw7082513931881172556 : True := trivial
theorem main1.tw7098743838945617861 : True := trivial
theorem main1.tw7122093110625626511 : True := trivial
theorem main1.tw7149444609150784333 : True := trivial
theorem main1.tw7152207077264863852 : True := trivial
theorem main1.tw7177544861663635299 : True := trivial
theorem main1.tw7178913576752061840 : True := trivial
theorem main1.tw718733359059299049 : True := trivial
theorem main1.tw7189358873581677376 : True := trivial
theorem main1.tw7195639383127812465 : True := trivial
theorem main1.tw7218607424958814455 : True := trivial
theorem main1.tw7236780860131954708 : True := trivial
theorem main1.tw7240606704117115339 : True := trivial
theorem main1.tw7255631592706162631 : True := trivial
theorem main1.tw7276637956665273975 : True := trivial
theorem main1.tw7300217426397539106 : True := trivial
theorem main1.tw7300732487323135490 : True := trivial
theorem main1.tw7307742826054444480 : True := trivial
theorem main1.tw7311308398741695821 : True := trivial
theorem main1.tw7333120977646760602 : True := trivial
theorem main1.tw7342254268550666573 : True := trivial
theorem main1.tw7343879199548997638 : True := trivial
theorem main1.tw7348338246669629355 : True := trivial
theorem main1.tw7395489729735570229 : True := trivial
theorem main1.tw7399984457408028997 : True := trivial
theorem main1.tw741078931860980959 : True := trivial
theorem main1.tw7427818976276833549 : True := trivial
theorem main1.tw743215287478060567 : True := trivial
theorem main1.tw7434918742698462319 : True := trivial
theorem main1.tw7437564925134271700 : True := trivial
theorem main1.tw7447703674552010416 : True := trivial
theorem main1.tw7525723136856204660 : True := trivial
theorem main1.tw7534885252462833357 : True := trivial
theorem main1.tw7538133729151421481 : True := trivial
theorem main1.tw7554901669846612321 : True := trivial
theorem main1.tw7555892968333138532 : True := trivial
theorem main1.tw7571592386948213881 : True := trivial
theorem main1.tw7584826756482860916 : True := trivial
theorem main1.tw7596429157065435720 : True := trivial
theorem main1.tw760939892438819384 : True := trivial
theorem main1.tw7674501629543002695 : True := trivial
theorem main1.tw7711043479661723761 : True := trivial
theorem main1.tw7723005661225621860 : True := trivial
theorem main1.tw7729289686370882790 : True := trivial
theorem main1.tw7730200846049084246 : True := trivial
theorem main1.tw7735248057101276940 : True := trivial
theorem main1.tw7745213925894471389 : True := trivial
theorem main1.tw7762234636134836480 : True := trivial
theorem main1.tw7765806381590751973 : True := trivial
theorem main1.tw7768642227556598403 : True := trivial
theorem main1.tw7778722178886919737 : True := trivial
theorem main1.tw7794977270252990419 : True := trivial
theorem main1.tw7795165044423168910 : True := trivial
theorem main1.tw7808220862699458599 : True := trivial
theorem main1.tw7853156465757170096 : True := trivial
theorem main1.tw792346687213503952 : True := trivial
theorem main1.tw7925692646008700553 : True := trivial
theorem main1.tw7927404647612107151 : True := trivial
theorem main1.tw7940016096850457394 : True := trivial
theorem main1.tw7953149703451146551 : True := trivial
theorem main1.tw7965136053286786959 : True := trivial
theorem main1.tw8015924893891246016 : True := trivial
theorem main1.tw8037557517691391540 : True := trivial
theorem main1.tw8062521685933534930 : True := trivial
theorem main1.tw8082360176218211561 : True := trivial
theorem main1.tw810635530680675872 : True := trivial
theorem main1.tw810855924099907036 : True := trivial
theorem main1.tw8126730595370035987 : True := trivial
theorem main1.tw8135419551124157204 : True := trivial
theorem main1.tw8138474430340900983 : True := trivial
theorem main1.tw8148680334237576694 : True := trivial
theorem main1.tw8158237843826563328 : True := trivial
theorem main1.tw8159941987003281012 : True := trivial
theorem main1.tw8174030479251628537 : True := trivial
theorem main1.tw8192558260926961626 : True := trivial
theorem main1.tw8196704278597030276 : True := trivial
theorem main1.tw8198646598276928757 : True := trivial
theorem main1.tw8217811255285136824 : True := trivial
theorem main1.tw8252723371831596500 : True := trivial
theorem main1.tw825387801959171403 : True := trivial
theorem main1.tw8256574405292657000 : True := trivial
theorem main1.tw8267646206096061528 : True := trivial
theorem main1.tw826828591004533946 : True := trivial
theorem main1.tw829608795474129056 : True := trivial
theorem main1.tw8303383143381480653 : True := trivial
theorem main1.tw8362921971948357294 : True := trivial
theorem main1.tw8373145631701923095 : True := trivial
theorem main1.tw8379026200184459405 : True := trivial
theorem main1.tw8381718521882668026 : True := trivial
theorem main1.tw8388160841825753519 : True := trivial
theorem main1.tw8392480128088710688 : True := trivial
theorem main1.tw8413562278483373587 : True := trivial
theorem main1.tw8418422137948922344 : True := trivial
theorem main1.tw8421749193461506745 : True := trivial
theorem main1.tw843356596797473718 : True := trivial
theorem main1.tw8453473882810755875 : True := trivial
theorem main1.tw8518256731554921459 : True := trivial
theorem main1.tw8555890272929044158 : True := trivial
theorem main1.tw8565098878419054895 : True := trivial
theorem main1.tw8570054749702832386 : True := trivial
theorem main1.tw8587901416450910744 : True := trivial
theorem main1.tw8623935573729199552 : True := trivial
theorem main1.tw8641816418868469141 : True := trivial
theorem main1.tw8653914801814964297 : True := trivial
theorem main1.tw8663412442299860908 : True := trivial
theorem main1.tw8692435208560990016 : True := trivial
theorem main1.tw8701954471160815537 : True := trivial
theorem main1.tw8721883549345953963 : True := trivial
theorem main1.tw8761517898548388248 : True := trivial
theorem main1.tw8788060782986166968 : True := trivial
theorem main1.tw8811093335163342579 : True := trivial
theorem main1.tw8824762479036580456 : True := trivial
theorem main1.tw8838513825561808683 : True := trivial
theorem main1.tw8844456570681856946 : True := trivial
theorem main1.tw8861999792963921952 : True := trivial
theorem main1.tw8877846339679123375 : True := trivial
theorem main1.tw8897124507758765207 : True := trivial
theorem main1.tw8913016070655588647 : True := trivial
theorem main1.tw8927947422391698931 : True := trivial
theorem main1.tw8960791319205201622 : True := trivial
theorem main1.tw8976114549914144722 : True := trivial
theorem main1.tw8988886599457378154 : True := trivial
theorem main1.tw9013284624442538914 : True := trivial
theorem main1.tw9019027108814976050 : True := trivial
theorem main1.tw9041780810051366532 : True := trivial
theorem main1.tw904298793133137514 : True := trivial
theorem main1.tw9076096901008021777 : True := trivial
theorem main1.tw9090630081530449844 : True := trivial
theorem main1.tw9098013134364276911 : True := trivial
theorem main1.tw9126397349740161379 : True := trivial
theorem main1.tw9156147077392817757 : True := trivial
theorem main1.tw9205986607633301885 : True := trivial
theorem main1.tw9211307539584626203 : True := trivial
theorem main1.tw9231013802849085370 : True := trivial
theorem main1.tw9251912860422834665 : True := trivial
theorem main1.tw9252582250698742093 : True := trivial
theorem main1.tw9258396932247747349 : True := trivial
theorem main1.tw9259340854955950366 : True := trivial
theorem main1.tw926421302161903795 : True := trivial
theorem main1.tw9273049660536128644 : True := trivial
theorem main1.tw931044184571375645 : True := trivial
theorem main1.tw9318503022770399365 : True := trivial
theorem main1.tw9321697625833434980 : True := trivial
theorem main1.tw9323863366420298358 : True := trivial
theorem main1.tw9324311951891374125 : True := trivial
theorem main1.tw9325227990094954846 : True := trivial
theorem main1.tw9330374691673724442 : True := trivial
theorem main1.tw9338104820518043251 : True := trivial
theorem main1.tw9372526646598163365 : True := trivial
theorem main1.tw9374449479357488940 : True := trivial
theorem main1.tw9376556330811771797 : True := trivial
theorem main1.tw9388351431909899365 : True := trivial
theorem main1.tw9389297485260603608 : True := trivial
theorem main1.tw9389731814045145239 : True := trivial
theorem main1.tw9393966185731517213 : True := trivial
theorem main1.tw9437394252549911890 : True := trivial
theorem main1.tw9442306456211098356 : True := trivial
theorem main1.tw947130958144094715 : True := trivial
theorem main1.tw9473024606196487315 : True := trivial
theorem main1.tw9473843410373279042 : True := trivial
theorem main1.tw9474518816844097024 : True := trivial
theorem main1.tw9479467189295997246 : True := trivial
theorem main1.tw950495889235011779 : True := trivial
theorem main1.tw9514218364725623408 : True := trivial
theorem main1.tw9516164041808114095 : True := trivial
theorem main1.tw9524640368566170493 : True := trivial
theorem main1.tw9543507688020124742 : True := trivial
theorem main1.tw9562250291998483613 : True := trivial
theorem main1.tw9587319967742133147 : True := trivial
theorem main1.tw9600876777441980244 : True := trivial
theorem main1.tw9609686559595302212 : True := trivial
theorem main1.tw966977949837077315 : True := trivial
theorem main1.tw9696737840430957957 : True := trivial
theorem main1.tw9702940782923393311 : True := trivial
theorem main1.tw9726946137481611817 : True := trivial
theorem main1.tw9736927627444204672 : True := trivial
theorem main1.tw9740506251628501059 : True := trivial
theorem main1.tw9767536422689101859 : True := trivial
theorem main1.tw9792013876999887405 : True := trivial
theorem main1.tw9796681225364663097 : True := trivial
theorem main1.tw9799742147057963903 : True := trivial
theorem main1.tw9801586222089694378 : True := trivial
theorem main1.tw9810725589349617367 : True := trivial
theorem main1.tw9879257039262555823 : True := trivial
theorem main1.tw9880132338666329774 : True := trivial
theorem main1.tw9893714473192500574 : True := trivial
theorem main1.tw9898362907789407861 : True := trivial
theorem main1.tw9931106536197879338 : True := trivial
theorem main1.tw9944896602383752896 : True := trivial
theorem main1.tw9945614248832769051 : True := trivial
theorem main1.tw996306653703660304 : True := trivial
theorem main1.tw9966859483900794830 : True := trivial
theorem main1.tw9968637939338064162 : True := trivial
theorem main1.tw9979098445792570316 : True := trivial
theorem main1.tw9979779751028422780 : True := trivial
theorem main1.tw9986894175617949176 : True := trivial
theorem main1.tw16901110937874684866 : True := trivial
set_option Elab.async true in
theorem main1 (said : PySem.Challenge.rw_kq0020_01.row.wellSaid = true) : PySem.Challenge.rw_kq0020_01.row.Holds := by
  o_head (kHook capt.heap_1 [2, 3, 33, 35, 36, 38, 39, 40, 42, 43, 45, 46, 47, 49, 50, 52, 53, 54, 61, 62, 63, 64, 74, 76, 77, 79, 80, 81, 82, 83, 84, 85, 86, 89, 96, 97, 98, 101, 108, 109, 110, 113, 120, 121, 123, 124, 126, 127, 128, 130, 131, 133, 134, 135, 137, 138, 140, 141, 142, 144, 145, 147, 148, 149, 150, 152, 153, 155, 156, 157, 159, 160, 162, 163, 164, 166, 167, 169, 170, 171, 173, 174, 176, 177, 178, 180, 181, 183, 184, 185, 187, 188, 190, 191, 192, 194, 195, 197, 198, 199, 201, 202, 204, 205, 206, 208, 209, 211, 212, 213, 215, 216, 218, 219, 220, 222, 223, 225, 226, 227, 229, 230, 232, 233, 234, 236, 237, 239, 240, 241, 242, 244, 245, 247, 248, 249, 250, 252, 253, 255, 256, 257, 258, 260, 261, 263, 264, 265, 266, 268, 269, 271, 272, 273, 275, 276, 278, 279, 280, 282, 283, 285, 286, 287, 288, 290, 291, 293, 294, 295, 296, 298, 299, 301, 302, 303, 305, 306, 308, 309, 310, 312, 313, 315, 316, 317, 319, 320, 322, 323, 324, 326, 327, 329, 330, 331, 333, 334, 336, 337, 338, 339, 340, 343, 350, 351, 353, 354, 356, 357, 358, 360, 361, 363, 364, 365, 367, 368, 370, 371, 372, 374, 375, 377, 378, 379, 381, 382, 384, 385, 386, 388, 389, 391, 392, 393, 394, 396, 397, 399, 400, 401, 402, 404, 405, 407, 408, 409, 410, 412, 413, 415, 416, 417, 418, 420, 421, 423, 424, 425, 426, 428, 429, 431, 432, 433, 435, 436, 438, 439, 440, 442, 443, 445, 446, 447, 449, 450, 452, 453, 454, 456, 457, 459, 460, 461, 463, 464, 466, 467, 468, 470, 471, 473, 474, 475, 477, 478, 480, 481, 482, 484, 485, 487, 488, 489, 491, 492, 494, 495, 496, 498, 499, 501, 502, 503, 505, 506, 508, 509, 510, 511, 513, 514, 516, 517, 518, 519, 521, 522, 524, 525, 526, 527, 529, 530, 532, 533, 534, 535, 537, 538, 540, 541, 542, 543, 545, 546, 548, 549, 550, 552, 553, 555, 556, 557, 559, 560, 562, 563, 564, 566, 567, 569, 570, 571, 573, 574, 576, 577, 578, 580, 581, 583, 584, 585, 586, 587, 590, 592, 593, 595, 596, 597, 599, 600, 602, 603, 604, 606, 607, 609, 610, 611, 613, 614, 616, 617, 618, 620, 621, 623, 624, 625, 627, 628, 630, 631, 639, 640, 642, 643, 645, 646, 647, 649, 650, 652, 653, 654, 655, 657, 658, 660, 661, 662, 663, 665, 666, 668, 669, 670, 672, 673, 675, 676, 677, 679, 680, 682, 683, 684, 686, 687, 689, 690, 691, 693, 694, 696, 697, 698, 699, 701, 702, 704, 705, 706, 708, 709, 711, 712, 713, 715, 716, 718, 719, 720, 721, 722, 723, 724, 727, 729, 730, 732, 733, 734, 736, 737, 739, 740, 741, 744, 745, 746, 748, 749, 751, 752, 753, 755, 756, 758, 759] (fun _ => by kernel_rfl))
  (case hw => w_witness2)
  k_go0
  rename (Frag.In (capt.heap_1 _) _) => KX
  rename (PyProof.Rows.Top _ _ _ _ _ _) => T
  rename (PyProof.Rows.Fr _ _ _ _) => FR
  rename (Shared.gens _ = #[]) => HG
  rename (Heap.IsList _ _ _) => HL
  rename (IntsAre _ _) => HI
  rename (¬ (_ : Int) < _) => HC
  rename World => w
  obtain ⟨C, hC⟩ : ∃ C : Cx, C = cxOf PySem.Challenge.rw_kq0020_01.row.prog w KX T.g T.b T.builtins T.nolimit := ⟨_, rfl⟩
  have hK : C.K = KK C.w.params := by rw [hC]; rfl
  have hM : C.M = model PySem.Challenge.rw_kq0020_01.row.prog w := by rw [hC]; rfl
  rw [← hM]
  refine run_law (C := C) (by rw [hC]; rfl) (by rw [hC]; rfl) HG FR rfl rfl rfl ?_ ?_
  · intro f hf
    have ok : f.Ok 20 (namesOf (fnAt C.K 759)) := by
      rw [hK]
      conv in (namesOf _) => whnf
      subst hf
      exact ok_start rfl rfl rfl rfl rfl (by decide +kernel) (by decide +kernel) (by decide +kernel) (by decide +kernel)
    have hA : f.A.handled = none := by subst hf; rfl
    clear hf
    have hLs := statL_of (C := C) HL HI (by rw [hC]; rfl)
    have hz := len_of HC
    clear hC
    have B := law_a (d := 11) (Q := fun fl _ _ => fl = .ret (.bool true)) hK ok hA hLs hz (fun _ _ => rfl)
    rw [hK] at B
    conv at B in (bodyOf _) => whnf
    conv at B in (namesOf _) => whnf
    exact B
  · intro s' h1 h2 h3
    refine ⟨.inl ⟨.bool true, .bool true, [], rfl, fun _ => rfl, .bool true, by kernel_rfl, fun _ => ⟨List.nodup_nil, fun _ h => nomatch h⟩⟩, h1, h2, h3⟩
end
end Mine
namespace Mine
theorem law1.tw12287016310172226758 : True := trivial
theorem law1.tw14403819072023873701 : True := trivial
set_option Elab.async true in
theorem law1 : PySem.Challenge.rw_kq0020_01.Holds := by
  w_on
  o_law
  exact main1 (by assumption)
end Mine
theorem PySem.Challenge.cw_kq0020_01_holds : PySem.Challenge.rw_kq0020_01.Holds :=
  Mine.law1

import PyProof.Rows.All
import Wide.All
import OpenK.AllK
import Wide.FinOn
import Lean
import PySem.Challenge.RW_ic0007_01
open PySem PySem.W PyProof.Rows PySem.Calls
set_option Elab.async false
noncomputable section
namespace Mine

/-! own values, own objects, an own heap -/
inductive VV where
  | int (z : Int) | bool (b : Bool) | none | ref (i : Nat) | scr
inductive VO where
  | list (xs : List VV) | tup (xs : List VV) | dict0 | cell (v : VV) | cellE | ns (l : List (Nat × VV))
  | tabE | tabF (t j : Nat) | code (t : Nat) | fn (t : Nat) (j : Nat) (cl : List (Nat × Nat)) | junk

inductive Tr where
  | nil
  | node (v : Option VO) (l r : Tr)
def Tr.get (t : Tr) : Nat → Option VO :=
  Tr.rec (motive := fun _ => Nat → Option VO) (fun _ => .none) (fun v _ _ gl gr i => Bool.rec (motive := fun _ => Option VO) (Bool.rec (motive := fun _ => Option VO) (gr (i / 2 - 1)) (gl (i / 2)) (Nat.beq (i % 2) 1)) v (Nat.beq i 0)) t
def Tr.set (n : Nat) : Tr → Nat → VO → Tr :=
  Nat.rec (motive := fun _ => Tr → Nat → VO → Tr) (fun t _ _ => t)
    (fun _ ih t i o => Tr.rec (motive := fun _ => Tr)
      (Bool.rec (motive := fun _ => Tr) (Bool.rec (motive := fun _ => Tr) (.node .none .nil (ih .nil (i / 2 - 1) o)) (.node .none (ih .nil (i / 2) o) .nil) (Nat.beq (i % 2) 1)) (.node (some o) .nil .nil) (Nat.beq i 0))
      (fun v l r _ _ => Bool.rec (motive := fun _ => Tr) (Bool.rec (motive := fun _ => Tr) (.node v l (ih r (i / 2 - 1) o)) (.node v (ih l (i / 2) o) r) (Nat.beq (i % 2) 1)) (.node (some o) l r) (Nat.beq i 0)) t) n

theorem beqN (a b : Nat) : Nat.beq a b = decide (a = b) := by
  rw [Bool.eq_iff_iff, decide_eq_true_iff]
  exact ⟨Nat.eq_of_beq_eq_true, fun h => by subst h; exact Nat.beq_refl a⟩
theorem Tr.get_node (v : Option VO) (l r : Tr) (i : Nat) : (Tr.node v l r).get i = if i = 0 then v else if i % 2 = 1 then l.get (i / 2) else r.get (i / 2 - 1) := by
  show Bool.rec (motive := fun _ => Option VO) (Bool.rec (motive := fun _ => Option VO) (r.get (i / 2 - 1)) (l.get (i / 2)) (Nat.beq (i % 2) 1)) v (Nat.beq i 0) = _
  rw [beqN, beqN]
  by_cases h : i = 0 <;> by_cases q : i % 2 = 1 <;> simp [h, q]
theorem Tr.set_nil (n i : Nat) (o : VO) : Tr.set (n + 1) .nil i o = Tr.set (n + 1) (.node .none .nil .nil) i o := by
  rfl
theorem Tr.set_node (n : Nat) (v : Option VO) (l r : Tr) (i : Nat) (o : VO) : Tr.set (n + 1) (.node v l r) i o = if i = 0 then .node (some o) l r else if i % 2 = 1 then .node v (Tr.set n l (i / 2) o) r else .node v l (Tr.set n r (i / 2 - 1) o) := by
  show Bool.rec (motive := fun _ => Tr) (Bool.rec (motive := fun _ => Tr) (.node v l (Tr.set n r (i / 2 - 1) o)) (.node v (Tr.set n l (i / 2) o) r) (Nat.beq (i % 2) 1)) (.node (some o) l r) (Nat.beq i 0) = _
  rw [beqN, beqN]
  by_cases h : i = 0 <;> by_cases q : i % 2 = 1 <;> simp [h, q]
theorem Tr.get_set : ∀ (n : Nat) (t : Tr) (i : Nat) (o : VO) (j : Nat), i + 1 < 2 ^ n → (Tr.set n t i o).get j = if j = i then some o else t.get j := by
  intro n
  induction n with
  | zero => intro t i o j h; omega
  | succ n ih =>
    have key : ∀ (v : Option VO) (l r : Tr) (i : Nat) (o : VO) (j : Nat), i + 1 < 2 ^ (n + 1) → (Tr.set (n + 1) (.node v l r) i o).get j = if j = i then some o else (Tr.node v l r).get j := by
      intro v l r i o j h
      have hp : 2 ^ (n + 1) = 2 * 2 ^ n := by rw [Nat.pow_succ, Nat.mul_comm]
      rw [Tr.set_node, Tr.get_node]
      by_cases h0 : i = 0
      · subst h0; rw [if_pos rfl, Tr.get_node]; by_cases hj : j = 0 <;> simp [hj]
      · rw [if_neg h0]
        by_cases q : i % 2 = 1
        · rw [if_pos q, Tr.get_node, ih _ _ _ _ (by omega)]
          by_cases hj : j = 0
          · subst hj; simp [Ne.symm h0]
          · rw [if_neg hj, if_neg hj]
            by_cases qj : j % 2 = 1
            · rw [if_pos qj, if_pos qj]
              by_cases e : j = i
              · subst e; simp
              · rw [if_neg e, if_neg (by omega)]
            · rw [if_neg qj, if_neg qj, if_neg (by omega)]
        · rw [if_neg q, Tr.get_node, ih _ _ _ _ (by omega)]
          by_cases hj : j = 0
          · subst hj; simp [Ne.symm h0]
          · rw [if_neg hj, if_neg hj]
            by_cases qj : j % 2 = 1
            · rw [if_pos qj, if_pos qj, if_neg (by omega)]
            · rw [if_neg qj, if_neg qj]
              by_cases e : j = i
              · subst e; simp
              · rw [if_neg e, if_neg (by omega)]
    intro t i o j h
    cases t with
    | nil =>
      rw [Tr.set_nil, key _ _ _ _ _ _ h, Tr.get_node]
      have e : ∀ k, Tr.get .nil k = .none := fun _ => rfl
      simp only [e, ite_self]
    | node v l r => exact key v l r i o j h

structure VH where
  n : Nat
  t : Tr
def VH.get (H : VH) (i : Nat) : Option VO := H.t.get i
/-- the next place, when there is room -/
def VH.push (H : VH) (o : VO) : Option VH := match Nat.blt H.n 200000 with
  | true => some ⟨H.n + 1, Tr.set 20 H.t H.n o⟩
  | false => .none
def VH.put (H : VH) (i : Nat) (o : VO) : Option VH := match Nat.blt i 200000 with
  | true => some ⟨H.n, Tr.set 20 H.t i o⟩
  | false => .none

theorem bltN {a b : Nat} (h : Nat.blt a b = true) : a < b := Nat.le_of_ble_eq_true h
theorem VH.push_get {H H' : VH} {o : VO} (h : H.push o = some H') : H'.n = H.n + 1 ∧ ∀ j, H'.get j = if j = H.n then some o else H.get j := by
  unfold VH.push at h
  split at h
  · rename_i hb
    cases h
    exact ⟨rfl, fun j => Tr.get_set 20 H.t H.n o j (by have := bltN hb; omega)⟩
  · cases h
theorem VH.put_get {H H' : VH} {i : Nat} {o : VO} (h : H.put i o = some H') : H'.n = H.n ∧ ∀ j, H'.get j = if j = i then some o else H.get j := by
  unfold VH.put at h
  split at h
  · rename_i hb
    cases h
    exact ⟨rfl, fun j => Tr.get_set 20 H.t i o j (by have := bltN hb; omega)⟩
  · cases h

/-- a look-up by number -/
def lk {α : Type} : List (Nat × α) → Nat → Option α
  | [], _ => .none
  | p :: l, i => match Nat.beq p.1 i with
    | true => some p.2
    | false => lk l i
def ins {α : Type} : List (Nat × α) → Nat → α → List (Nat × α)
  | [], i, v => [(i, v)]
  | p :: l, i, v => match Nat.beq p.1 i with
    | true => (i, v) :: l
    | false => p :: ins l i v
theorem lk_cons {α : Type} (p : Nat × α) (l : List (Nat × α)) (i : Nat) : lk (p :: l) i = if p.1 = i then some p.2 else lk l i := by
  show (match Nat.beq p.1 i with | true => some p.2 | false => lk l i) = _
  rw [beqN]; by_cases h : p.1 = i <;> simp [h]
theorem lk_ins {α : Type} (l : List (Nat × α)) (i : Nat) (v : α) (j : Nat) : lk (ins l i v) j = if j = i then some v else lk l j := by
  induction l with
  | nil => rw [ins, lk_cons]; by_cases h : i = j <;> simp [h, lk, eq_comm]
  | cons p l ih =>
    rw [ins, beqN]
    by_cases h : p.1 = i
    · simp only [h, decide_true, lk_cons]
      by_cases e : i = j
      · simp [e]
      · simp [e, Ne.symm e]
    · simp only [h, decide_false, lk_cons]
      rw [ih]
      by_cases e : p.1 = j
      · have : j ≠ i := fun q => h (e.trans q)
        simp [e, this]
      · simp [e]

structure St where
  H : VH
  loc : List (Nat × VV)
  cs : List (Nat × Nat)
  nsi : Option (List (Nat × VV))
abbrev SE := St → Option (VV × St)
inductive Fl where
  | next | ret (v : VV)
abbrev SS := St → Option (Fl × St)
abbrev SB := St → Option (Bool × St)

/-! names -/
def sn : List String := ["script", "many", "first", "ways", "k", "often", "rest", "table", "due", "more", "grown", "row", "size", "whole", "rows", "ahead", "j", "i",
  "target", "source", "cc", "nc", "tt", "ct", "callers", "t_cc", "t_nc", "t_tt", "t_ct", "t_callers", "new_callers", "func", "caller", "a", "b", "n", "a_digits", "r", "q_digits",
  "a_digit", "q_digit", "q", "digits", "inner", "x", "L", "R", "mid", "shift", "upper", "lower", "four", "after", "at", "back", "one", "other"]
def nm (i : Nat) : Str := Str.ofString (sn.getD i "?")
def nmOk : Bool := (List.range 57).all fun i => (List.range 57).all fun j => i == j || !(nm i == nm j)
theorem nmOk_is : nmOk = true := by decide +kernel
theorem nm_inj (i j : Nat) (hi : i < 57) (hj : j < 57) (e : nm i = nm j) : i = j := by
  have h := List.all_eq_true.mp (List.all_eq_true.mp nmOk_is i (List.mem_range.mpr hi)) j (List.mem_range.mpr hj)
  rcases Bool.or_eq_true_iff.mp h with h | h
  · exact beq_iff_eq.mp h
  · rw [e] at h; simp at h

/-! relations -/
def VR (q : Addr) (ρ : List Addr) : VV → Value → Prop
  | .int z, x => ∃ t, x = .int z t
  | .bool b, x => x = .bool b
  | .none, x => x = .none
  | .ref i, x => ∃ a, ρ[i]? = some a ∧ x = .ref a
  | .scr, x => x = .ref q
def VRs (q : Addr) (ρ : List Addr) : List VV → List Value → Prop
  | [], [] => True
  | v :: vs, x :: xs => VR q ρ v x ∧ VRs q ρ vs xs
  | _, _ => False
theorem pfx_get {ρ ρ' : List Addr} (h : ρ <+: ρ') {i : Nat} {a : Addr} (e : ρ[i]? = some a) : ρ'[i]? = some a := by
  obtain ⟨t, rfl⟩ := h
  have hi : i < ρ.length := by
    rcases Nat.lt_or_ge i ρ.length with h | h
    · exact h
    · rw [List.getElem?_eq_none h] at e; cases e
  rw [List.getElem?_append_left hi]; exact e
theorem VR.mono {q : Addr} {ρ ρ' : List Addr} (h : ρ <+: ρ') : ∀ {v : VV} {x : Value}, VR q ρ v x → VR q ρ' v x
  | .int _, _, e => e
  | .bool _, _, e => e
  | .none, _, e => e
  | .ref _, _, ⟨a, e, r⟩ => ⟨a, pfx_get h e, r⟩
  | .scr, _, e => e
theorem VRs.mono {q : Addr} {ρ ρ' : List Addr} (h : ρ <+: ρ') : ∀ {v : List VV} {x : List Value}, VRs q ρ v x → VRs q ρ' v x
  | [], [], _ => trivial
  | _ :: _, _ :: _, ⟨a, b⟩ => ⟨a.mono h, b.mono h⟩
theorem VRs.length {q : Addr} {ρ : List Addr} : ∀ {v : List VV} {x : List Value}, VRs q ρ v x → v.length = x.length
  | [], [], _ => rfl
  | _ :: _, _ :: _, ⟨_, b⟩ => congrArg (· + 1) b.length
theorem VRs.get {q : Addr} {ρ : List Addr} : ∀ {v : List VV} {x : List Value}, VRs q ρ v x → ∀ {i : Nat} {a : VV}, v[i]? = some a → ∃ b, x[i]? = some b ∧ VR q ρ a b
  | _ :: _, _ :: _, ⟨a, _⟩, 0, _, e => by cases e; exact ⟨_, rfl, a⟩
  | _ :: _, _ :: _, ⟨_, b⟩, i + 1, _, e => b.get (i := i) e
theorem VRs.append {q : Addr} {ρ : List Addr} : ∀ {v v' : List VV} {x x' : List Value}, VRs q ρ v x → VRs q ρ v' x' → VRs q ρ (v ++ v') (x ++ x')
  | [], _, [], _, _, h => h
  | _ :: _, _, _ :: _, _, ⟨a, b⟩, h => ⟨a, b.append h⟩
theorem VRs.set {q : Addr} {ρ : List Addr} : ∀ {v : List VV} {x : List Value} {i : Nat} {a : VV} {b : Value}, VRs q ρ v x → VR q ρ a b → VRs q ρ (v.set i a) (x.set i b)
  | [], [], _, _, _, _, _ => trivial
  | _ :: _, _ :: _, 0, _, _, ⟨_, r⟩, h => ⟨h, r⟩
  | _ :: _, _ :: _, _ + 1, _, _, ⟨l, r⟩, h => ⟨l, r.set h⟩
theorem VRs.reverse {q : Addr} {ρ : List Addr} : ∀ {v : List VV} {x : List Value}, VRs q ρ v x → VRs q ρ v.reverse x.reverse
  | [], [], _ => trivial
  | _ :: _, _ :: _, ⟨a, b⟩ => by rw [List.reverse_cons, List.reverse_cons]; exact b.reverse.append ⟨a, trivial⟩

def LocMap (q : Addr) (ρ : List Addr) (m : Str → Option Value) (l : List (Nat × VV)) : Prop :=
  ∀ i v, lk l i = some v → i < 57 ∧ ∃ x, m (nm i) = some x ∧ VR q ρ v x
theorem LocMap.mono {q : Addr} {ρ ρ' : List Addr} (h : ρ <+: ρ') {m : Str → Option Value} {l : List (Nat × VV)} (k : LocMap q ρ m l) : LocMap q ρ' m l :=
  fun i v e => let ⟨a, x, b, r⟩ := k i v e; ⟨a, x, b, r.mono h⟩
theorem LocMap.ins {q : Addr} {ρ : List Addr} {m : Str → Option Value} {l : List (Nat × VV)} (k : LocMap q ρ m l) {i : Nat} {v : VV} {x : Value} (hi : i < 57) (hv : VR q ρ v x) :
    LocMap q ρ (fun y => if y = nm i then some x else m y) (Mine.ins l i v) := fun j u e => by
  rw [lk_ins] at e
  by_cases h : j = i
  · subst h; rw [if_pos rfl] at e; cases e; exact ⟨hi, x, by simp, hv⟩
  · rw [if_neg h] at e
    obtain ⟨a, y, b, r⟩ := k j u e
    exact ⟨a, y, by simp only [if_neg fun q => h (nm_inj j i a hi q)]; exact b, r⟩
def CsMap (ρ : List Addr) (cl : List (Str × Addr)) (cs : List (Nat × Nat)) : Prop := ∀ i k, lk cs i = some k → ∃ a, cl.lookup (nm i) = some a ∧ ρ[k]? = some a
theorem CsMap.mono {ρ ρ' : List Addr} (h : ρ <+: ρ') {cl : List (Str × Addr)} {cs : List (Nat × Nat)} (k : CsMap ρ cl cs) : CsMap ρ' cl cs :=
  fun i j e => let ⟨a, b, r⟩ := k i j e; ⟨a, b, pfx_get h r⟩

/-- what a made def is: name, qualname, parameters, body, scope, and where it stands -/
structure FnSpec where
  name : Str
  qual : Str
  params : Arguments
  body : List Stmt
  scope : Scope
  pos : Pos
abbrev Specs := Nat → Option FnSpec

def OR (S : Specs) (q : Addr) (ρ : List Addr) : VO → Obj → Prop
  | .list xs, o => ∃ vs n, o = { cls := .type "list", data := .seq (vs : List Value).toArray n } ∧ VRs q ρ xs vs
  | .tup xs, o => ∃ vs n, o = { cls := .type "tuple", data := .seq (vs : List Value).toArray n } ∧ VRs q ρ xs vs
  | .dict0, o => ∃ n, o = { cls := .type "dict", data := .dict #[] n }
  | .cell v, o => ∃ x, o.data = .cell (some x) ∧ VR q ρ v x
  | .cellE, o => ∃ x, o.data = .cell x
  | .ns l, o => ∃ m, LCg.NsObj o m ∧ LocMap q ρ m l
  | .tabE, o => o = tabObj #[]
  | .tabF t j, o => ∃ a f, ρ[j]? = some a ∧ S t = some f ∧ o = tabObj #[rawInt f.pos.line, rawInt f.pos.col, .ref a]
  | .code t, o => ∃ f vs tk, S t = some f ∧ o.data = .fields vs ∧ vs[1]? = some (.str f.qual tk)
  | .fn t j cl, o => ∃ f a clos doc pm ctv, S t = some f ∧ ρ[j]? = some a ∧ o = fnMade f.name f.qual f.params f.body f.scope clos doc pm a ctv ∧ CsMap ρ clos cl
  | .junk, _ => True
theorem OR.mono {S : Specs} {q : Addr} {ρ ρ' : List Addr} (h : ρ <+: ρ') : ∀ {o : VO} {x : Obj}, OR S q ρ o x → OR S q ρ' o x
  | .list _, _, ⟨vs, n, e, r⟩ => ⟨vs, n, e, r.mono h⟩
  | .tup _, _, ⟨vs, n, e, r⟩ => ⟨vs, n, e, r.mono h⟩
  | .dict0, _, e => e
  | .cell _, _, ⟨x, e, r⟩ => ⟨x, e, r.mono h⟩
  | .cellE, _, e => e
  | .ns _, _, ⟨m, e, r⟩ => ⟨m, e, r.mono h⟩
  | .tabE, _, e => e
  | .tabF _ _, _, ⟨a, f, e, r⟩ => ⟨a, f, pfx_get h e, r⟩
  | .code _, _, e => e
  | .fn _ _ _, _, ⟨f, a, clos, doc, pm, ctv, e1, e2, e3, e4⟩ => ⟨f, a, clos, doc, pm, ctv, e1, pfx_get h e2, e3, e4.mono h⟩
  | .junk, _, e => e

abbrev adr (N : List (Addr × Obj)) : List Addr := N.map (·.1)
def HOk (S : Specs) (q : Addr) (ρ : List Addr) (N : List (Addr × Obj)) (H : VH) : Prop := H.n = N.length ∧ ∀ i o, H.get i = some o → ∃ p, N[i]? = some p ∧ OR S q ρ o p.2

/-- what every frame shares -/
structure Gl where
  prog : Program
  w : World
  K : Frag
  p : Program
  loose : List Str
  mean : ExcName → Option Value
  mg : Str → Option Value
  mb : Str → Option Value
  S : Specs
  ns : List Int
  tabs : List (Addr × Addr)
  cq : Scope → Value → Str → Prop
/-- one frame -/
structure Cx where
  A : Around
  A₀ : Around
  base : Heap
  h₀ : Heap
  outer : List Env
  L : Addr
  fenv : Env
  q : Addr
  qv : List Value
  s₀ : Shared
structure Cx.Ok (G : Gl) (d : Nat) (c : Cx) : Prop where
  B : Below c.A₀ c.base c.outer c.h₀
  X : G.K.In c.h₀
  T : Top G.p G.loose G.mean G.mg G.mb c.h₀
  fr : c.A.frames = some (c.fenv :: c.outer)
  ff : c.fenv.frame = some c.L
  fk : c.fenv.scope.kind = .function
  fl : c.fenv.locals = c.L
  fg : c.fenv.globals = mainGlobals
  fb : c.fenv.builtins = builtinsNs
  hh : c.A.handled = none
  room : c.A.depth + d < recursionLimit
  units : c.A.units + 8 * d + 64 < cLine
  isl : c.h₀.IsList c.q c.qv.toArray
  isi : IntsAre c.qv G.ns
  ch : ∀ q ∈ G.tabs, CodeHd c.h₀ q.1 q.2
  sm : ∃ o, c.h₀.get? sysModules = some o
  cqo : ∀ cd ql, G.cq c.fenv.scope cd ql → c.fenv.code = cd ∧ c.fenv.qual = ql

structure EvOk (c : Cx) (ρ : List Addr) (X : List (Addr × Obj)) (σ : St) (ev : Env) : Prop where
  g : ev.globals = mainGlobals
  b : ev.builtins = builtinsNs
  k : ev.scope.kind = .function
  l : match σ.nsi with | .none => ev = c.fenv | some l => ∃ o mm, (ev.locals, o) ∈ X ∧ LCg.NsObj o mm ∧ LocMap c.q ρ mm l
  cs : CsMap ρ ev.cells σ.cs

structure Rel (G : Gl) (c : Cx) (ev : Env) (σ : St) (m : Str → Option Value) (N X : List (Addr × Obj)) (s : Shared) : Prop where
  fr : Fr c.h₀ c.L s.heap m
  nw : News c.h₀ c.L s.heap (N ++ X)
  nd : (adr N ++ adr X).Nodup
  hp : HOk G.S c.q (adr N) N σ.H
  tb : G.tabs.map (·.2) <+: adr N
  lo : LocMap c.q (adr N) m σ.loc
  ev : EvOk c (adr N) X σ ev
  sh : s = { c.s₀ with heap := s.heap, toks := s.toks }

variable {G : Gl} {c : Cx} {ev : Env} {σ σ' : St} {m : Str → Option Value} {N X : List (Addr × Obj)} {s : Shared}

theorem Rel.tok (R : Rel G c ev σ m N X s) (t : Nat) : Rel G c ev σ m N X { s with toks := t } :=
  ⟨R.fr, R.nw, R.nd, R.hp, R.tb, R.lo, R.ev, by have e := R.sh; rw [e]⟩
/-- the heap has grown -/
theorem Rel.keeps (R : Rel G c ev σ m N X s) {h' : Heap} (t : Nat) (k : ∀ b o, s.heap.get? b = some o → h'.get? b = some o) : Rel G c ev σ m N X { s with heap := h', toks := t } :=
  ⟨R.fr.keeps k, R.nw.grown k, R.nd, R.hp, R.tb, R.lo, R.ev, by have e := R.sh; rw [e]⟩
theorem Rel.news (R : Rel G c ev σ m N X s) : News c.h₀ c.L s.heap N := fun p hp => R.nw p (List.mem_append_left _ hp)
theorem Rel.newsX (R : Rel G c ev σ m N X s) : News c.h₀ c.L s.heap X := R.nw.right
theorem Rel.size_new (R : Rel G c ev σ m N X s) : ∀ p ∈ N ++ X, p.1 < s.heap.objs.size := fun p hp => Heap.lt_size (R.nw p hp).1
theorem HOk.at {S : Specs} {q : Addr} {ρ : List Addr} {H : VH} (h : HOk S q ρ N H) {i : Nat} {o : VO} (e : H.get i = some o) : ∃ a ob, N[i]? = some (a, ob) ∧ OR S q ρ o ob :=
  let ⟨p, hp, r⟩ := h.2 i o e; ⟨p.1, p.2, hp, r⟩
theorem adr_get {i : Nat} {a : Addr} {ob : Obj} (e : N[i]? = some (a, ob)) : (adr N)[i]? = some a := by simp [adr, List.getElem?_map, e]
theorem adr_mem {i : Nat} {a : Addr} {ob : Obj} (e : N[i]? = some (a, ob)) : (a, ob) ∈ N := List.mem_of_getElem? e
theorem lt_of_get {α : Type} {l : List α} {i : Nat} {x : α} (e : l[i]? = some x) : i < l.length := by
  rcases Nat.lt_or_ge i l.length with h | h
  · exact h
  · rw [List.getElem?_eq_none h] at e; cases e
theorem pfx_rfl {l : List Addr} : l <+: l := ⟨[], by simp⟩
theorem pfx_push {a : Addr} {ob : Obj} : adr N <+: adr (N ++ [(a, ob)]) := ⟨[a], by simp [adr]⟩
theorem adr_set {i : Nat} {a : Addr} {ob ob' : Obj} (hN : N[i]? = some (a, ob)) : adr (N.set i (a, ob')) = adr N := by
  simp only [adr, List.map_set]
  refine List.ext_getElem? fun j => ?_
  rw [List.getElem?_set]
  split
  · rename_i h
    subst h
    rw [adr_get hN, if_pos (by simpa using lt_of_get hN)]
  · rfl
/-- an address of its own -/
theorem Rel.own (R : Rel G c ev σ m N X s) {a : Addr} (ha : s.heap.objs.size ≤ a) : a ≠ c.L ∧ c.h₀.get? a = none := by
  refine ⟨fun q => ?_, ?_⟩
  · have := R.fr.ns.lt; rw [← q] at this; exact absurd this (Nat.not_lt.mpr ha)
  · exact Heap.get?_none_of_le (Nat.le_trans R.fr.above (Nat.le_trans (Nat.le_of_lt R.fr.ns.lt) ha))

/-- a new object at the ledger's end -/
theorem Rel.pushF (R : Rel G c ev σ m N X s) {o : VO} {H' : VH} (hp : σ.H.push o = some H') {a : Addr} {ob : Obj} {h' : Heap} (t : Nat) (F' : Fr c.h₀ c.L h' m) (N' : News c.h₀ c.L h' ((a, ob) :: (N ++ X))) (fresh : a ∉ adr N ++ adr X)
    (ho : OR G.S c.q (adr N ++ [a]) o ob) : Rel G c ev { σ with H := H' } m (N ++ [(a, ob)]) X { s with heap := h', toks := t } := by
  obtain ⟨e1, e2⟩ := VH.push_get hp
  have pf : adr N <+: adr (N ++ [(a, ob)]) := pfx_push
  have ea : adr (N ++ [(a, ob)]) = adr N ++ [a] := by simp [adr]
  refine ⟨F', fun p hpm => ?_, ?_, ⟨?_, fun i x e => ?_⟩, R.tb.trans pf, R.lo.mono pf, ?_, by have e := R.sh; rw [e]⟩
  · rcases List.mem_append.mp hpm with h | h
    · rcases List.mem_append.mp h with h | h
      · exact N' p (.tail _ (List.mem_append_left _ h))
      · rw [List.mem_singleton.mp h]; exact N' _ (.head _)
    · exact N' p (.tail _ (List.mem_append_right _ h))
  · rw [ea, List.append_assoc]
    have n1 := R.nd
    rw [List.nodup_append] at n1 ⊢
    refine ⟨n1.1, ?_, ?_⟩
    · rw [List.singleton_append, List.nodup_cons]
      exact ⟨fun hm => fresh (List.mem_append_right _ hm), n1.2.1⟩
    · intro x hx y hy
      rcases List.mem_cons.mp hy with rfl | hy
      · exact fun q => fresh (List.mem_append_left _ (q ▸ hx))
      · exact n1.2.2 x hx y hy
  · rw [e1, R.hp.1]; simp
  · rw [e2] at e
    by_cases hi : i = σ.H.n
    · rw [if_pos hi] at e; cases e
      refine ⟨(a, ob), ?_, ea ▸ ho⟩
      rw [hi, R.hp.1, List.getElem?_append_right (Nat.le_refl _)]; simp
    · rw [if_neg hi] at e
      obtain ⟨p, hpm, r⟩ := R.hp.2 i x e
      refine ⟨p, ?_, r.mono pf⟩
      rw [List.getElem?_append_left (lt_of_get hpm)]; exact hpm
  · refine ⟨R.ev.g, R.ev.b, R.ev.k, ?_, R.ev.cs.mono pf⟩
    have l := R.ev.l
    revert l
    cases σ.nsi with
    | none => exact id
    | some l => exact fun ⟨o, mm, a1, a2, a3⟩ => ⟨o, mm, a1, a2, a3.mono pf⟩

theorem Rel.pushN (R : Rel G c ev σ m N X s) {o : VO} {H' : VH} (hp : σ.H.push o = some H') {a : Addr} {ob : Obj} {h' : Heap} (t : Nat) (F' : Fr c.h₀ c.L h' m) (N' : News c.h₀ c.L h' ((a, ob) :: (N ++ X))) (ha : s.heap.objs.size ≤ a)
    (ho : OR G.S c.q (adr N ++ [a]) o ob) : Rel G c ev { σ with H := H' } m (N ++ [(a, ob)]) X { s with heap := h', toks := t } :=
  R.pushF hp t F' N' (fun hm => by
    rcases List.mem_append.mp hm with hm | hm
    · obtain ⟨p, hpm, rfl⟩ := List.mem_map.mp hm
      exact absurd (R.size_new p (List.mem_append_left _ hpm)) (Nat.not_lt.mpr ha)
    · obtain ⟨p, hpm, rfl⟩ := List.mem_map.mp hm
      exact absurd (R.size_new p (List.mem_append_right _ hpm)) (Nat.not_lt.mpr ha)) ho

theorem Rel.push (R : Rel G c ev σ m N X s) {o : VO} {H' : VH} (hp : σ.H.push o = some H') {a : Addr} {ob : Obj} {h' : Heap} (t : Nat) (k : ∀ b x, s.heap.get? b = some x → h'.get? b = some x) (ha : s.heap.objs.size ≤ a)
    (hg : h'.get? a = some ob) (ho : OR G.S c.q (adr N ++ [a]) o ob) : Rel G c ev { σ with H := H' } m (N ++ [(a, ob)]) X { s with heap := h', toks := t } :=
  R.pushN hp t (R.fr.keeps k) (fun p hp => by
    rcases List.mem_cons.mp hp with rfl | hp
    · exact ⟨hg, (R.own ha).1, (R.own ha).2⟩
    · exact (R.nw.grown k) p hp) ha ho

/-- an own object turned -/
theorem Rel.putE (R : Rel G c ev σ m N X s) {i : Nat} {o o' : VO} {H' : VH} (ho : σ.H.get i = some o) (hp : σ.H.put i o' = some H') {a : Addr} {ob ob' : Obj} {h' : Heap} (t : Nat) (hN : N[i]? = some (a, ob))
    (hs : Heap.ExtBut a s.heap h') (hg : h'.get? a = some ob') (hr : OR G.S c.q (adr N) o' ob') (hns : ∀ l, o = .ns l → ∃ l', o' = .ns l') : Rel G c ev { σ with H := H' } m (N.set i (a, ob')) X { s with heap := h', toks := t } := by
  obtain ⟨e1, e2⟩ := VH.put_get hp
  have hlt : i < N.length := lt_of_get hN
  have ea : adr (N.set i (a, ob')) = adr N := adr_set hN
  have hm := R.nw _ (List.mem_append_left X (adr_mem hN))
  have n1 := R.nd
  rw [List.nodup_append] at n1
  refine ⟨⟨R.fr.ns.extBut hs (Ne.symm hm.2.1), fun b o e => hs b o (fun q => by rw [q, hm.2.2] at e; cases e) (R.fr.keep b o e), R.fr.above⟩, fun p hpm => ?_, ea ▸ R.nd, ⟨?_, fun j x e => ?_⟩, ea ▸ R.tb, ea ▸ R.lo, ?_, by have e := R.sh; rw [e]⟩
  · rcases List.mem_append.mp hpm with hpm | hpm
    · rcases List.mem_iff_getElem?.mp hpm with ⟨j, hj⟩
      rw [List.getElem?_set] at hj
      by_cases h : i = j
      · rw [if_pos h, if_pos hlt] at hj; cases hj
        exact ⟨hg, hm.2⟩
      · rw [if_neg h] at hj
        have hp' := R.news p (List.mem_of_getElem? hj)
        refine ⟨hs p.1 _ (fun q => h ?_) hp'.1, hp'.2⟩
        have q' : (adr N)[i]? = (adr N)[j]? := by
          rw [adr_get hN, adr_get (a := p.1) (ob := p.2) hj, q]
        exact (List.getElem?_inj (by simpa using hlt) n1.1).mp q'
    · have hp' := R.newsX p hpm
      refine ⟨hs p.1 _ (fun q => ?_) hp'.1, hp'.2⟩
      exact n1.2.2 a (List.mem_map.mpr ⟨_, adr_mem hN, rfl⟩) p.1 (List.mem_map.mpr ⟨p, hpm, rfl⟩) q.symm
  · rw [e1, R.hp.1]; simp
  · rw [e2] at e
    by_cases hj : j = i
    · rw [if_pos hj] at e; cases e
      exact ⟨(a, ob'), by rw [hj, List.getElem?_set_self hlt], ea ▸ hr⟩
    · rw [if_neg hj] at e
      obtain ⟨p, hpm, r⟩ := R.hp.2 j x e
      exact ⟨p, by rw [List.getElem?_set_ne (Ne.symm hj)]; exact hpm, ea ▸ r⟩
  · refine ⟨R.ev.g, R.ev.b, R.ev.k, ?_, ea ▸ R.ev.cs⟩
    have l := R.ev.l
    revert l
    cases σ.nsi with
    | none => exact id
    | some l => exact fun ⟨o, mm, a1, a2, a3⟩ => ⟨o, mm, a1, a2, ea ▸ a3⟩

theorem Rel.put (R : Rel G c ev σ m N X s) {i : Nat} {o o' : VO} {H' : VH} (ho : σ.H.get i = some o) (hp : σ.H.put i o' = some H') {a : Addr} {ob ob' : Obj} {h' : Heap} (t : Nat) (hN : N[i]? = some (a, ob))
    (hs : Heap.SameBut a s.heap h') (hg : h'.get? a = some ob') (hr : OR G.S c.q (adr N) o' ob') (hns : ∀ l, o = .ns l → ∃ l', o' = .ns l') : Rel G c ev { σ with H := H' } m (N.set i (a, ob')) X { s with heap := h', toks := t } :=
  R.putE ho hp t hN hs.extBut hg hr hns
end Mine
open PySem PySem.W PyProof.Rows PySem.Calls
set_option Elab.async false
namespace Mine

abbrev Kv (G : Gl) (c : Cx) (ev : Env) (σ' : St) (N X : List (Addr × Obj)) (v : VV) (Q : Value → Shared → Prop) : Prop :=
  ∀ m' N' s' x, Rel G c ev σ' m' N' X s' → adr N <+: adr N' → VR c.q (adr N') v x → Q x s'
abbrev Kb (G : Gl) (c : Cx) (ev : Env) (σ' : St) (N X : List (Addr × Obj)) (b : Bool) (Q : Bool → Shared → Prop) : Prop :=
  ∀ m' N' s', Rel G c ev σ' m' N' X s' → adr N <+: adr N' → Q b s'

def Snd (G : Gl) (d : Nat) (sc : Scope) (e : Expr) (f : SE) : Prop :=
  ∀ (c : Cx) (ev : Env) (σ σ' : St) (v : VV) (m : Str → Option Value) (N X : List (Addr × Obj)) (s : Shared) (Q : Value → Shared → Prop) (E : Value → Shared → Prop),
    c.Ok G d → ev.scope = sc → Rel G c ev σ m N X s → f σ = some (v, σ') → Kv G c ev σ' N X v Q → wpAny (model G.prog G.w) c.A (eval e ev) Q E s
def SndT (G : Gl) (d : Nat) (sc : Scope) (e : Expr) (f : SB) : Prop :=
  ∀ (c : Cx) (ev : Env) (σ σ' : St) (b : Bool) (m : Str → Option Value) (N X : List (Addr × Obj)) (s : Shared) (Q : Bool → Shared → Prop) (E : Value → Shared → Prop),
    c.Ok G d → ev.scope = sc → Rel G c ev σ m N X s → f σ = some (b, σ') → Kb G c ev σ' N X b Q → wpAny (model G.prog G.w) c.A (isTrue e ev (eval e ev)) Q E s
def OpOk (G : Gl) (d : Nat) (t : Value → Value → Sem Value) (g : VV → VV → SE) : Prop :=
  ∀ (c : Cx) (ev : Env) (σ σ' : St) (v a b : VV) (m : Str → Option Value) (N X : List (Addr × Obj)) (s : Shared) (x y : Value) (Q : Value → Shared → Prop) (E : Value → Shared → Prop),
    c.Ok G d → Rel G c ev σ m N X s → VR c.q (adr N) a x → VR c.q (adr N) b y → g a b σ = some (v, σ') → Kv G c ev σ' N X v Q → wpAny (model G.prog G.w) c.A (t x y) Q E s
def UnOk (G : Gl) (d : Nat) (t : Value → Sem Value) (g : VV → SE) : Prop :=
  ∀ (c : Cx) (ev : Env) (σ σ' : St) (v a : VV) (m : Str → Option Value) (N X : List (Addr × Obj)) (s : Shared) (x : Value) (Q : Value → Shared → Prop) (E : Value → Shared → Prop),
    c.Ok G d → Rel G c ev σ m N X s → VR c.q (adr N) a x → g a σ = some (v, σ') → Kv G c ev σ' N X v Q → wpAny (model G.prog G.w) c.A (t x) Q E s

section
variable {G : Gl} {d : Nat} {sc : Scope}

/-! constants -/
def eInt (z : Int) : SE := fun σ => some (.int z, σ)
def eNone : SE := fun σ => some (.none, σ)
def eBool (b : Bool) : SE := fun σ => some (.bool b, σ)
theorem Snd.int {z : Int} {k pos} : Snd G d sc (.Constant (.int z) k pos) (eInt z) := by
  intro c ev σ σ' v m N X s Q E ok _ R h K
  cases h
  exact wpAny_Constant_int (K _ _ _ _ (R.tok _) pfx_rfl ⟨_, rfl⟩)
theorem Snd.none {k pos} : Snd G d sc (.Constant .none k pos) eNone := by
  intro c ev σ σ' v m N X s Q E ok _ R h K
  cases h
  exact wpAny_Constant_none (K _ _ _ _ R pfx_rfl rfl)
theorem Snd.bool {b : Bool} {k pos} : Snd G d sc (.Constant (.bool b) k pos) (eBool b) := by
  intro c ev σ σ' v m N X s Q E ok _ R h K
  cases h
  exact wpAny_Constant_bool (K _ _ _ _ R pfx_rfl rfl)

/-! names -/
def eLoc (i : Nat) : SE := fun σ => match σ.nsi with
  | .none => match lk σ.loc i with
    | some v => some (v, σ)
    | .none => .none
  | some l => match lk l i with
    | some v => some (v, σ)
    | .none => .none
theorem Snd.loc {x : Str} {pos} (i : Nat) (hx : x = nm i) (hk : sc.names.lookup x = some .local) (hd : (x == ("__debug__" : Str)) = false) : Snd G d sc (.Name x pos) (eLoc i) := by
  intro c ev σ σ' v m N X s Q E ok hs R h K
  subst hx
  have hk' : ev.kindOf (nm i) = some .local := by unfold Env.kindOf; rw [hs]; exact hk
  unfold eLoc at h
  have l := R.ev.l
  cases hn : σ.nsi with
  | none =>
    simp only [hn] at h l
    cases hl : lk σ.loc i with
    | none => simp only [hl] at h; cases h
    | some v' =>
      simp only [hl] at h; cases h
      obtain ⟨_, x, hm, hv⟩ := R.lo i _ hl
      exact wpAny_Name (wpAny_loadName_local R.ev.k hk' (by rw [l, ok.fl]; exact R.fr.ns) hm (K _ _ _ _ R pfx_rfl hv)) hd
  | some l' =>
    simp only [hn] at h l
    obtain ⟨o, mm, a1, ho, lm⟩ := l
    cases hl : lk l' i with
    | none => simp only [hl] at h; cases h
    | some v' =>
      simp only [hl] at h; cases h
      obtain ⟨_, x, hm, hv⟩ := lm i _ hl
      exact wpAny_Name (wpAny_loadName_local R.ev.k hk' (ho.ns (R.nw _ (List.mem_append_right _ a1)).1) hm (K _ _ _ _ R pfx_rfl hv)) hd
def eCel (i : Nat) : SE := fun σ => match lk σ.cs i with
  | some k => match σ.H.get k with
    | some (.cell v) => some (v, σ)
    | _ => .none
  | .none => .none
theorem cell_at {c : Cx} {ev : Env} {σ σ' : St} {v : VV} {m : Str → Option Value} {N X : List (Addr × Obj)} {s : Shared} {i : Nat} (R : Rel G c ev σ m N X s) (h : eCel i σ = some (v, σ')) :
    σ' = σ ∧ ∃ a x, ev.cells.lookup (nm i) = some a ∧ s.heap.IsCell a (some x) ∧ VR c.q (adr N) v x := by
  unfold eCel at h
  cases hc : lk σ.cs i with
  | none => simp only [hc] at h; cases h
  | some k =>
    simp only [hc] at h
    split at h
    · rename_i v' hv
      cases h
      obtain ⟨a, h1, h2⟩ := R.ev.cs i k hc
      obtain ⟨a', ob, hN, x, ho, hr⟩ := R.hp.at hv
      rw [adr_get hN] at h2
      cases h2
      exact ⟨rfl, a, x, h1, ⟨ob, (R.news _ (adr_mem hN)).1, ho⟩, hr⟩
    · cases h
theorem Snd.cel {x : Str} {pos} (i : Nat) (hx : x = nm i) (hk : sc.names.lookup x = some .cell) (hd : (x == ("__debug__" : Str)) = false) : Snd G d sc (.Name x pos) (eCel i) := by
  intro c ev σ σ' v m N X s Q E ok hs R h K
  subst hx
  obtain ⟨rfl, a, x, h1, h2, h3⟩ := cell_at R h
  exact wpAny_Name (wpAny_loadName_cell R.ev.k (by unfold Env.kindOf; rw [hs]; exact hk) h1 h2 (K _ _ _ _ R pfx_rfl h3)) hd
theorem Snd.free {x : Str} {pos} (i : Nat) (hx : x = nm i) (hk : sc.names.lookup x = some .free) (hd : (x == ("__debug__" : Str)) = false) (hn : (x == ("__classdict__" : Str)) = false) : Snd G d sc (.Name x pos) (eCel i) := by
  intro c ev σ σ' v m N X s Q E ok hs R h K
  subst hx
  obtain ⟨rfl, a, x, h1, h2, h3⟩ := cell_at R h
  exact wpAny_Name (wpAny_loadName_free R.ev.k (by unfold Env.kindOf; rw [hs]; exact hk) h1 h2 (K _ _ _ _ R pfx_rfl h3) hn) hd

/-! operators -/
def eBin (g : VV → VV → SE) (fl fr : SE) : SE := fun σ => match fl σ with
  | some (a, σ₁) => match fr σ₁ with
    | some (b, σ₂) => g a b σ₂
    | .none => .none
  | .none => .none
theorem two {g : VV → VV → SE} {fl fr : SE} {σ σ' : St} {v : VV} (h : eBin g fl fr σ = some (v, σ')) : ∃ a σ₁ b σ₂, fl σ = some (a, σ₁) ∧ fr σ₁ = some (b, σ₂) ∧ g a b σ₂ = some (v, σ') := by
  unfold eBin at h
  split at h
  · rename_i a σ₁ h1
    split at h
    · rename_i b σ₂ h2
      exact ⟨a, σ₁, b, σ₂, h1, h2, h⟩
    · cases h
  · cases h
theorem pfx_trans {a b c : List Addr} (h : a <+: b) (k : b <+: c) : a <+: c := h.trans k
theorem Snd.bin {l r : Expr} {op : Operator} {pos} {g : VV → VV → SE} {fl fr : SE} (hl : Snd G d sc l fl) (hr : Snd G d sc r fr) (hg : OpOk G d (binaryOp op) g) : Snd G d sc (.BinOp l op r pos) (eBin g fl fr) := by
  intro c ev σ σ' v m N X s Q E ok hs R h K
  obtain ⟨a, σ₁, b, σ₂, h1, h2, h3⟩ := two h
  exact wpAny_BinOp (hl c ev σ σ₁ a m N X s _ E ok hs R h1 fun m1 N1 s1 x R1 p1 v1 => hr c ev σ₁ σ₂ b m1 N1 X s1 _ E ok hs R1 h2 fun m2 N2 s2 y R2 p2 v2 =>
    hg c ev σ₂ σ' v a b m2 N2 X s2 x y Q E ok R2 (v1.mono p2) v2 h3 fun m3 N3 s3 z R3 p3 v3 => K m3 N3 s3 z R3 (p1.trans (p2.trans p3)) v3)
def eUn (g : VV → SE) (f : SE) : SE := fun σ => match f σ with
  | some (a, σ₁) => g a σ₁
  | .none => .none
theorem Snd.un {e : Expr} {op : UnaryOp} {pos} {g : VV → SE} {f : SE} (he : Snd G d sc e f) (hg : UnOk G d (unaryOp op) g) : Snd G d sc (.UnaryOp op e pos) (eUn g f) := by
  intro c ev σ σ' v m N X s Q E ok hs R h K
  unfold eUn at h
  split at h
  · rename_i a σ₁ h1
    exact wpAny_UnaryOp (he c ev σ σ₁ a m N X s _ E ok hs R h1 fun m1 N1 s1 x R1 p1 v1 => hg c ev σ₁ σ' v a m1 N1 X s1 x Q E ok R1 v1 h fun m2 N2 s2 y R2 p2 v2 => K m2 N2 s2 y R2 (p1.trans p2) v2)
  · cases h
theorem Snd.cmp {l r : Expr} {op : CmpOp} {pos} {g : VV → VV → SE} {fl fr : SE} (hl : Snd G d sc l fl) (hr : Snd G d sc r fr) (hg : OpOk G d (compareOp op) g) (hm : behindInMarks op r = false) : Snd G d sc (.Compare l [op] [r] pos) (eBin g fl fr) := by
  intro c ev σ σ' v m N X s Q E ok hs R h K
  obtain ⟨a, σ₁, b, σ₂, h1, h2, h3⟩ := two h
  exact wpAny_Compare1 (hl c ev σ σ₁ a m N X s _ E ok hs R h1 fun m1 N1 s1 x R1 p1 v1 => hr c ev σ₁ σ₂ b m1 N1 X s1 _ E ok hs R1 h2 fun m2 N2 s2 y R2 p2 v2 =>
    hg c ev σ₂ σ' v a b m2 N2 X s2 x y Q E ok R2 (v1.mono p2) v2 h3 fun m3 N3 s3 z R3 p3 v3 => K m3 N3 s3 z R3 (p1.trans (p2.trans p3)) v3) hm

/-! ints -/
def small (a : Int) : Bool := Nat.blt a.natAbs 4611686018427387904
def iAdd : VV → VV → SE := fun a b σ => match a, b with | .int x, .int y => some (.int (x + y), σ) | _, _ => .none
def iSub : VV → VV → SE := fun a b σ => match a, b with | .int x, .int y => some (.int (x - y), σ) | _, _ => .none
def iMul : VV → VV → SE := fun a b σ => match a, b with | .int x, .int y => (match small x with | true => some (.int (x * y), σ) | false => .none) | _, _ => .none
def iDiv : VV → VV → SE := fun a b σ => match a, b with | .int x, .int y => (match Nat.beq y.natAbs 0, Nat.blt y.natAbs 1073741824 with | false, true => some (.int (x.fdiv y), σ) | _, _ => .none) | _, _ => .none
def iMod : VV → VV → SE := fun a b σ => match a, b with | .int x, .int y => (match Nat.beq y.natAbs 0 with | true => .none | false => some (.int (x.fmod y), σ)) | _, _ => .none
def iShl : VV → VV → SE := fun a b σ => match a, b with | .int x, .int y => (match y with | .ofNat n => (match small x, Nat.blt n 1000 with | true, true => some (.int (x * Int.ofNat (2 ^ n)), σ) | _, _ => .none) | .negSucc _ => .none) | _, _ => .none
def iShr : VV → VV → SE := fun a b σ => match a, b with | .int x, .int y => (match y with | .ofNat n => some (.int (x.fdiv (Int.ofNat (2 ^ n))), σ) | .negSucc _ => .none) | _, _ => .none
def iXor : VV → VV → SE := fun a b σ => match a, b with | .int x, .int y => some (.int (Builtin.bitXor x y), σ) | _, _ => .none
def iPow : VV → VV → SE := fun a b σ => match a, b with | .int x, .int y => (match y with | .ofNat n => (match small x, Nat.blt n 1000 with | true, true => some (.int (x ^ n), σ) | _, _ => .none) | .negSucc _ => .none) | _, _ => .none
theorem two_pow (n : Nat) : Int.ofNat (2 ^ n) = 2 ^ n := Int.natCast_pow 2 n
theorem small_is {a : Int} (h : small a = true) : -(2 ^ 62) < a ∧ a < 2 ^ 62 := by
  have := bltN h
  omega
theorem small_bits {a : Int} (h : small a = true) : Builtin.Int.intBits a ≤ 64 := intBits_le_64 (by have := small_is h; omega) (by have := small_is h; omega)
theorem natAbs_ne {a : Int} (h : Nat.beq a.natAbs 0 = false) : a ≠ 0 := fun q => by subst q; cases h
theorem add_ok : OpOk G d (binaryOp .Add) iAdd := by
  intro c ev σ σ' v a b m N X s x y Q E ok R ha hb h K
  unfold iAdd at h
  split at h
  · cases h; obtain ⟨t, rfl⟩ := ha; obtain ⟨u, rfl⟩ := hb
    exact PyProof.Rows.add_int (K _ _ _ _ (R.tok _) pfx_rfl ⟨_, rfl⟩)
  · cases h
theorem sub_ok : OpOk G d (binaryOp .Sub) iSub := by
  intro c ev σ σ' v a b m N X s x y Q E ok R ha hb h K
  unfold iSub at h
  split at h
  · cases h; obtain ⟨t, rfl⟩ := ha; obtain ⟨u, rfl⟩ := hb
    exact PyProof.Rows.sub_int (K _ _ _ _ (R.tok _) pfx_rfl ⟨_, rfl⟩)
  · cases h
theorem mul_ok : OpOk G d (binaryOp .Mult) iMul := by
  intro c ev σ σ' v a b m N X s x y Q E ok R ha hb h K
  unfold iMul at h
  split at h
  · split at h
    · rename_i hs
      cases h; obtain ⟨t, rfl⟩ := ha; obtain ⟨u, rfl⟩ := hb
      exact PyProof.Rows.mul_int (K _ _ _ _ (R.tok _) pfx_rfl ⟨_, rfl⟩) (IntMulOk.of_left (small_bits hs))
    · cases h
  · cases h
theorem div_ok : OpOk G d (binaryOp .FloorDiv) iDiv := by
  intro c ev σ σ' v a b m N X s x y Q E ok R ha hb h K
  unfold iDiv at h
  split at h
  · split at h
    · rename_i h1 h2
      cases h; obtain ⟨t, rfl⟩ := ha; obtain ⟨u, rfl⟩ := hb
      exact floordiv_int (natAbs_ne h1) (K _ _ _ _ (R.tok _) pfx_rfl ⟨_, rfl⟩) (Or.inl (PyProof.noPylong_small (bltN h2)))
    · cases h
  · cases h
theorem mod_ok : OpOk G d (binaryOp .Mod) iMod := by
  intro c ev σ σ' v a b m N X s x y Q E ok R ha hb h K
  unfold iMod at h
  split at h
  · split at h
    · cases h
    · rename_i hs
      cases h; obtain ⟨t, rfl⟩ := ha; obtain ⟨u, rfl⟩ := hb
      exact mod_int' (natAbs_ne hs) (K _ _ _ _ (R.tok _) pfx_rfl ⟨_, rfl⟩)
  · cases h
theorem shl_ok : OpOk G d (binaryOp .LShift) iShl := by
  intro c ev σ σ' v a b m N X s x y Q E ok R ha hb h K
  unfold iShl at h
  split at h
  · split at h
    · rename_i n
      split at h
      · rename_i h1 h2
        cases h; obtain ⟨t, rfl⟩ := ha; obtain ⟨u, rfl⟩ := hb
        have b1 := small_bits h1
        have b2 := bltN h2
        exact lshift_int (Int.natCast_nonneg n) (by show (_ : Int) + (n : Int) ≤ _; omega) (K _ _ _ _ (R.tok _) pfx_rfl ⟨_, by rw [two_pow]; rfl⟩)
      · cases h
    · cases h
  · cases h
theorem shr_ok : OpOk G d (binaryOp .RShift) iShr := by
  intro c ev σ σ' v a b m N X s x y Q E ok R ha hb h K
  unfold iShr at h
  split at h
  · split at h
    · rename_i n
      cases h; obtain ⟨t, rfl⟩ := ha; obtain ⟨u, rfl⟩ := hb
      exact rshift_int (Int.natCast_nonneg n) (K _ _ _ _ (R.tok _) pfx_rfl ⟨_, by rw [two_pow]; rfl⟩)
    · cases h
  · cases h
theorem xor_ok : OpOk G d (binaryOp .BitXor) iXor := by
  intro c ev σ σ' v a b m N X s x y Q E ok R ha hb h K
  unfold iXor at h
  split at h
  · cases h; obtain ⟨t, rfl⟩ := ha; obtain ⟨u, rfl⟩ := hb
    exact xor_int (K _ _ _ _ (R.tok _) pfx_rfl ⟨_, rfl⟩)
  · cases h
theorem pow_ok : OpOk G d (binaryOp .Pow) iPow := by
  intro c ev σ σ' v a b m N X s x y Q E ok R ha hb h K
  unfold iPow at h
  split at h
  · split at h
    · rename_i n
      split at h
      · rename_i h1 h2
        cases h; obtain ⟨t, rfl⟩ := ha; obtain ⟨u, rfl⟩ := hb
        have b1 := small_bits h1
        have b2 := bltN h2
        refine pow_int (Int.natCast_nonneg n) ?_ (K _ _ _ _ (R.tok _) pfx_rfl ⟨_, rfl⟩)
        have h3 := Nat.mul_le_mul b1 (Nat.le_of_lt b2)
        generalize Builtin.Int.intBits _ = z at *
        have h4 : ((z * n : Nat) : Int) ≤ ((64 * 1000 : Nat) : Int) := Int.ofNat_le.mpr h3
        rw [Int.natCast_mul] at h4
        show ((z : Int) * (n : Int)) ≤ 2 ^ 27
        exact Int.le_trans h4 (by decide)
      · cases h
    · cases h
  · cases h
def iNeg : VV → SE := fun a σ => match a with | .int x => some (.int (-x), σ) | _ => .none
def iInv : VV → SE := fun a σ => match a with | .int x => some (.int (Builtin.bitNot x), σ) | _ => .none
theorem neg_ok : UnOk G d (unaryOp .USub) iNeg := by
  intro c ev σ σ' v a m N X s x Q E ok R ha h K
  unfold iNeg at h
  split at h
  · cases h; obtain ⟨t, rfl⟩ := ha
    exact PyProof.Rows.neg_int (K _ _ _ _ (R.tok _) pfx_rfl ⟨_, rfl⟩)
  · cases h
theorem inv_ok : UnOk G d (unaryOp .Invert) iInv := by
  intro c ev σ σ' v a m N X s x Q E ok R ha h K
  unfold iInv at h
  split at h
  · cases h; obtain ⟨t, rfl⟩ := ha
    exact invert_int (K _ _ _ _ (R.tok _) pfx_rfl ⟨_, rfl⟩)
  · cases h
end
end Mine
open PySem PySem.W PyProof.Rows PySem.Calls
set_option Elab.async false
namespace Mine
section
variable {G : Gl} {d : Nat} {sc : Scope}

/-! comparisons of ints -/
def cEq : VV → VV → SE := fun a b σ => match a, b with | .int x, .int y => some (.bool (Z.eqB x y), σ) | _, _ => .none
def cNe : VV → VV → SE := fun a b σ => match a, b with | .int x, .int y => some (.bool (!Z.eqB x y), σ) | _, _ => .none
def cLt : VV → VV → SE := fun a b σ => match a, b with | .int x, .int y => some (.bool (Z.ltB x y), σ) | _, _ => .none
def cLe : VV → VV → SE := fun a b σ => match a, b with | .int x, .int y => some (.bool (Z.leB x y), σ) | _, _ => .none
def cGt : VV → VV → SE := fun a b σ => match a, b with | .int x, .int y => some (.bool (Z.ltB y x), σ) | _, _ => .none
theorem eqB_beq (x y : Int) : Z.eqB x y = (x == y) := by rw [Bool.eq_iff_iff, Z.eqB_iff, beq_iff_eq]
theorem ltB_dec (x y : Int) : Z.ltB x y = decide (x < y) := by rw [Bool.eq_iff_iff, Z.ltB_iff, decide_eq_true_iff]
theorem leB_dec (x y : Int) : Z.leB x y = decide (x ≤ y) := by rw [Bool.eq_iff_iff, Z.leB_iff, decide_eq_true_iff]
theorem eq_ok : OpOk G d (compareOp .Eq) cEq := by
  intro c ev σ σ' v a b m N X s x y Q E ok R ha hb h K
  unfold cEq at h
  split at h
  · cases h; obtain ⟨t, rfl⟩ := ha; obtain ⟨u, rfl⟩ := hb
    exact PyProof.Rows.eq_int (K _ _ _ _ R pfx_rfl (by rw [eqB_beq]; rfl))
  · cases h
theorem ne_ok : OpOk G d (compareOp .NotEq) cNe := by
  intro c ev σ σ' v a b m N X s x y Q E ok R ha hb h K
  unfold cNe at h
  split at h
  · cases h; obtain ⟨t, rfl⟩ := ha; obtain ⟨u, rfl⟩ := hb
    exact PyProof.Rows.ne_int (K _ _ _ _ R pfx_rfl (by rw [eqB_beq]; rfl))
  · cases h
theorem lt_ok : OpOk G d (compareOp .Lt) cLt := by
  intro c ev σ σ' v a b m N X s x y Q E ok R ha hb h K
  unfold cLt at h
  split at h
  · cases h; obtain ⟨t, rfl⟩ := ha; obtain ⟨u, rfl⟩ := hb
    exact PyProof.Rows.lt_int (K _ _ _ _ R pfx_rfl (by rw [ltB_dec]; rfl))
  · cases h
theorem le_ok : OpOk G d (compareOp .LtE) cLe := by
  intro c ev σ σ' v a b m N X s x y Q E ok R ha hb h K
  unfold cLe at h
  split at h
  · cases h; obtain ⟨t, rfl⟩ := ha; obtain ⟨u, rfl⟩ := hb
    exact PyProof.Rows.le_int (K _ _ _ _ R pfx_rfl (by rw [leB_dec]; rfl))
  · cases h
theorem gt_ok : OpOk G d (compareOp .Gt) cGt := by
  intro c ev σ σ' v a b m N X s x y Q E ok R ha hb h K
  unfold cGt at h
  split at h
  · cases h; obtain ⟨t, rfl⟩ := ha; obtain ⟨u, rfl⟩ := hb
    exact PyProof.Rows.gt_int (K _ _ _ _ R pfx_rfl (by rw [ltB_dec]; rfl))
  · cases h
/-- «x is None» -/
def cIsNone : VV → VV → SE := fun a b σ => match b with
  | .none => match a with
    | .none => some (.bool true, σ)
    | .int _ => some (.bool false, σ)
    | .ref _ => some (.bool false, σ)
    | _ => .none
  | _ => .none
theorem isNone_ok : OpOk G d (compareOp .Is) cIsNone := by
  intro c ev σ σ' v a b m N X s x y Q E ok R ha hb h K
  unfold cIsNone at h
  split at h
  · cases hb
    split at h
    · cases h; cases ha; exact is_none (K _ _ _ _ R pfx_rfl rfl)
    · cases h; obtain ⟨t, rfl⟩ := ha; exact is_none (K _ _ _ _ R pfx_rfl rfl)
    · cases h; obtain ⟨t, _, rfl⟩ := ha; exact is_none (K _ _ _ _ R pfx_rfl rfl)
    · cases h
  · cases h

/-! what is read whole -/
def mapO {α β : Type} (f : α → Option β) : List α → Option (List β)
  | [] => some []
  | x :: xs => match f x with
    | some y => match mapO f xs with
      | some ys => some (y :: ys)
      | .none => .none
    | .none => .none
def deep (H : VH) : Nat → VV → Option PyData
  | 0, _ => .none
  | n + 1, v => match v with
    | .int z => some (.int z)
    | .bool b => some (.bool b)
    | .none => some .none
    | .ref i => match H.get i with
      | some (.list xs) => match mapO (deep H n) xs with
        | some ds => some (.list ds)
        | .none => .none
      | some (.tup xs) => match mapO (deep H n) xs with
        | some ds => some (.tuple ds)
        | .none => .none
      | _ => .none
    | .scr => .none
theorem mapO_all {α β : Type} {f : α → Option β} {P : β → Prop} (hf : ∀ x y, f x = some y → P y) : ∀ {l : List α} {r : List β}, mapO f l = some r → ∀ y ∈ r, P y
  | [], _, h, _, hm => by cases h; cases hm
  | x :: xs, r, h, y, hm => by
    unfold mapO at h
    split at h
    · rename_i z hz
      split at h
      · rename_i zs hzs
        cases h
        rcases List.mem_cons.mp hm with rfl | hm
        · exact hf _ _ hz
        · exact mapO_all hf hzs y hm
      · cases h
    · cases h
theorem readsAll_of {c : Cx} {N : List (Addr × Obj)} {h : Heap} {f : VV → Option PyData} (hf : ∀ v dt x, f v = some dt → VR c.q (adr N) v x → ∃ as, Reads h x dt as) :
    ∀ {xs : List VV} {ds : List PyData} {vs : List Value}, mapO f xs = some ds → VRs c.q (adr N) xs vs → ∃ as, ReadsAll h vs ds as
  | [], _, [], e, _ => by cases e; exact ⟨_, .nil⟩
  | x :: xs, ds, v :: vs, e, r => by
    unfold mapO at e
    split at e
    · rename_i y hy
      split at e
      · rename_i ys hys
        cases e
        obtain ⟨as, h1⟩ := hf x y v hy r.1
        obtain ⟨bs, h2⟩ := readsAll_of hf hys r.2
        exact ⟨_, .cons h1 h2⟩
      · cases e
    · cases e
theorem deep_reads {c : Cx} {ev : Env} {σ : St} {m : Str → Option Value} {N X : List (Addr × Obj)} {s : Shared} (R : Rel G c ev σ m N X s) : ∀ (n : Nat) (v : VV) (dt : PyData) (x : Value), deep σ.H n v = some dt → VR c.q (adr N) v x → ∃ as, Reads s.heap x dt as
  | 0, _, _, _, h, _ => by cases h
  | n + 1, v, dt, x, h, r => by
    unfold deep at h
    split at h
    · cases h; obtain ⟨t, rfl⟩ := r; exact ⟨_, .int _ _⟩
    · cases h; cases r; exact ⟨_, .bool _⟩
    · cases h; cases r; exact ⟨_, .none⟩
    · rename_i i
      obtain ⟨a, e1, rfl⟩ := r
      split at h
      · rename_i xs hx
        split at h
        · rename_i ds hds
          cases h
          obtain ⟨a', ob, hN, vs, k, rfl, hr⟩ := R.hp.at hx
          rw [adr_get hN] at e1; cases e1
          obtain ⟨as, ra⟩ := readsAll_of (deep_reads R n) hds hr
          exact ⟨_, reads_list_at (R.news _ (adr_mem hN)).1 rfl rfl ra⟩
        · cases h
      · rename_i xs hx
        split at h
        · rename_i ds hds
          cases h
          obtain ⟨a', ob, hN, vs, k, rfl, hr⟩ := R.hp.at hx
          rw [adr_get hN] at e1; cases e1
          obtain ⟨as, ra⟩ := readsAll_of (deep_reads R n) hds hr
          exact ⟨_, reads_tuple_at (R.news _ (adr_mem hN)).1 rfl rfl ra⟩
        · cases h
      · cases h
    · cases h
theorem canLayAll_of : ∀ {ds : List PyData}, (∀ y ∈ ds, PyData.canLay0 y = true) → PyData.canLayAll0 ds = true
  | [], _ => by simp [PyData.canLayAll0]
  | d :: ds, h => by simp [PyData.canLayAll0, h d (.head _), canLayAll_of fun y hy => h y (.tail _ hy)]
theorem depthAll_of : ∀ {ds : List PyData} {n : Nat}, (∀ y ∈ ds, PyData.depth y ≤ n) → PyData.depthAll ds ≤ n
  | [], _, _ => by simp [PyData.depthAll]
  | d :: ds, n, h => by
    have h1 := h d (.head _)
    have h2 := depthAll_of (n := n) fun y hy => h y (.tail _ hy)
    simp only [PyData.depthAll]; omega
theorem deep_shape (H : VH) : ∀ (n : Nat) (v : VV) (dt : PyData), deep H n v = some dt → PyData.canLay0 dt = true ∧ PyData.depth dt ≤ n
  | 0, _, _, h => by cases h
  | n + 1, v, dt, h => by
    unfold deep at h
    split at h
    · cases h; simp [PyData.canLay0, PyData.depth]
    · cases h; simp [PyData.canLay0, PyData.depth]
    · cases h; simp [PyData.canLay0, PyData.depth]
    · split at h
      · split at h
        · rename_i ds hds
          cases h
          have a := mapO_all (P := fun y => PyData.canLay0 y = true ∧ PyData.depth y ≤ n) (deep_shape H n) hds
          have h1 := canLayAll_of fun y hy => (a y hy).1
          have h2 := depthAll_of fun y hy => (a y hy).2
          simp only [PyData.canLay0, PyData.depth]
          exact ⟨h1, by omega⟩
        · cases h
      · split at h
        · rename_i ds hds
          cases h
          have a := mapO_all (P := fun y => PyData.canLay0 y = true ∧ PyData.depth y ≤ n) (deep_shape H n) hds
          have h1 := canLayAll_of fun y hy => (a y hy).1
          have h2 := depthAll_of fun y hy => (a y hy).2
          simp only [PyData.canLay0, PyData.depth]
          exact ⟨h1, by omega⟩
        · cases h
      · cases h
    · cases h
theorem deep_shaped {H : VH} {v : VV} {dt : PyData} (h : deep H 4 v = some dt) : SeqAt.shaped dt = true := by
  obtain ⟨h1, h2⟩ := deep_shape H 4 v dt h
  unfold SeqAt.shaped
  rw [h1, Bool.true_and]
  exact decide_eq_true (by omega)
def dEq : VV → VV → SE := fun a b σ => match deep σ.H 4 a, deep σ.H 4 b with
  | some x, some y => some (.bool (PyData.eqv x y), σ)
  | _, _ => .none
def dNe : VV → VV → SE := fun a b σ => match deep σ.H 4 a, deep σ.H 4 b with
  | some x, some y => some (.bool (!PyData.eqv x y), σ)
  | _, _ => .none
theorem deq_ok : OpOk G d (compareOp .Eq) dEq := by
  intro c ev σ σ' v a b m N X s x y Q E ok R ha hb h K
  unfold dEq at h
  split at h
  · rename_i da db h1 h2
    cases h
    obtain ⟨as, ra⟩ := deep_reads R 4 a da x h1 ha
    obtain ⟨bs, rb⟩ := deep_reads R 4 b db y h2 hb
    exact eq_dataH ra rb (deep_shaped h1) (deep_shaped h2) (by have := ok.units; omega) (K _ _ _ _ R pfx_rfl rfl)
  · cases h
theorem dne_ok : OpOk G d (compareOp .NotEq) dNe := by
  intro c ev σ σ' v a b m N X s x y Q E ok R ha hb h K
  unfold dNe at h
  split at h
  · rename_i da db h1 h2
    cases h
    obtain ⟨as, ra⟩ := deep_reads R 4 a da x h1 ha
    obtain ⟨bs, rb⟩ := deep_reads R 4 b db y h2 hb
    exact ne_dataH ra rb (deep_shaped h1) (deep_shaped h2) (by have := ok.units; omega) (K _ _ _ _ R pfx_rfl rfl)
  · cases h

/-! tests -/
def tVal (f : SE) : SB := fun σ => match f σ with
  | some (.bool b, σ') => some (b, σ')
  | some (.int z, σ') => some (!Z.eqB z 0, σ')
  | _ => .none
theorem SndT.val {e : Expr} {f : SE} (h : Snd G d sc e f) (he : ∀ env whole, isTrue e env whole = (do let v ← whole; standAt e.pos; holding [v] (truthy v))) : SndT G d sc e (tVal f) := by
  intro c ev σ σ' b m N X s Q E ok hs R hf K
  refine wpAny_isTrue_value ?_ (he _ _)
  unfold tVal at hf
  split at hf
  · rename_i b' σ'' h1
    cases hf
    exact h c ev σ _ _ m N X s _ E ok hs R h1 fun m1 N1 s1 x R1 p1 v1 => by
      cases v1; exact wpAny_truthy_bool (K _ _ _ R1 p1)
  · rename_i z σ'' h1
    cases hf
    exact h c ev σ _ _ m N X s _ E ok hs R h1 fun m1 N1 s1 x R1 p1 v1 => by
      obtain ⟨t, rfl⟩ := v1
      refine PyProof.Rows.truthy_int ?_
      have := K _ _ _ R1 p1
      rw [eqB_beq] at this
      exact this
  · cases hf
def tCmp (g : VV → VV → SE) (fl fr : SE) : SB := fun σ => match eBin g fl fr σ with
  | some (.bool b, σ') => some (b, σ')
  | _ => .none
theorem SndT.cmp {l r : Expr} {op : CmpOp} {pos} {g : VV → VV → SE} {fl fr : SE} (hl : Snd G d sc l fl) (hr : Snd G d sc r fr) (hg : OpOk G d (compareOp op) g) (hm : behindInMarks op r = false) : SndT G d sc (.Compare l [op] [r] pos) (tCmp g fl fr) := by
  intro c ev σ σ' bb m N X s Q E ok hs R h K
  unfold tCmp at h
  split at h
  · rename_i b' σ'' h0
    cases h
    obtain ⟨a, σ₁, b, σ₂, h1, h2, h3⟩ := two h0
    exact wpAny_isTrue_Compare1 (hl c ev σ σ₁ a m N X s _ E ok hs R h1 fun m1 N1 s1 x R1 p1 v1 => hr c ev σ₁ σ₂ b m1 N1 X s1 _ E ok hs R1 h2 fun m2 N2 s2 y R2 p2 v2 =>
      hg c ev σ₂ _ _ a b m2 N2 X s2 x y _ E ok R2 (v1.mono p2) v2 h3 fun m3 N3 s3 z R3 p3 v3 => by
        cases v3
        exact wpAny_truthy_bool (K m3 N3 s3 R3 (p1.trans (p2.trans p3)))) hm
  · cases h
def tOr (f g : SB) : SB := fun σ => match f σ with
  | some (true, σ') => some (true, σ')
  | some (false, σ') => g σ'
  | .none => .none
theorem SndT.or {a b : Expr} {pos} {f g : SB} (ha : SndT G d sc a f) (hb : SndT G d sc b g) : SndT G d sc (.BoolOp .Or [a, b] pos) (tOr f g) := by
  intro c ev σ σ' bb m N X s Q E ok hs R h K
  refine wpAny_isTrue_BoolOp (wpAny_allTrue_Or_cons ?_)
  unfold tOr at h
  split at h
  · rename_i σ'' h1
    cases h
    exact ha c ev σ _ _ m N X s _ E ok hs R h1 fun m1 N1 s1 R1 p1 => by
      simp only [if_true]; exact K _ _ _ R1 p1
  · rename_i σ'' h1
    exact ha c ev σ _ _ m N X s _ E ok hs R h1 fun m1 N1 s1 R1 p1 => by
      simp only [Bool.false_eq_true, if_false]
      refine wpAny_allTrue_Or_cons (hb c ev σ'' σ' bb m1 N1 X s1 _ E ok hs R1 h fun m2 N2 s2 R2 p2 => ?_)
      cases bb
      · simp only [Bool.false_eq_true, if_false]; exact wpAny_allTrue_Or_nil (K _ _ _ R2 (p1.trans p2))
      · simp only [if_true]; exact K _ _ _ R2 (p1.trans p2)
  · cases h
def eIf (t : SB) (f g : SE) : SE := fun σ => match t σ with
  | some (true, σ') => f σ'
  | some (false, σ') => g σ'
  | .none => .none
theorem Snd.ifx {t a b : Expr} {pos} {ft : SB} {fa fb : SE} (ht : SndT G d sc t ft) (ha : Snd G d sc a fa) (hb : Snd G d sc b fb) : Snd G d sc (.IfExp t a b pos) (eIf ft fa fb) := by
  intro c ev σ σ' v m N X s Q E ok hs R h K
  unfold eIf at h
  refine wpAny_IfExp ?_
  split at h
  · rename_i σ₁ h1
    exact ht c ev σ σ₁ true m N X s _ E ok hs R h1 fun m1 N1 s1 R1 p1 => by
      simp only [if_true]
      exact ha c ev σ₁ σ' v m1 N1 X s1 Q E ok hs R1 h fun m2 N2 s2 x R2 p2 v2 => K _ _ _ _ R2 (p1.trans p2) v2
  · rename_i σ₁ h1
    exact ht c ev σ σ₁ false m N X s _ E ok hs R h1 fun m1 N1 s1 R1 p1 => by
      simp only [Bool.false_eq_true, if_false]
      exact hb c ev σ₁ σ' v m1 N1 X s1 Q E ok hs R1 h fun m2 N2 s2 x R2 p2 v2 => K _ _ _ _ R2 (p1.trans p2) v2
  · cases h

/-! lists of expressions -/
abbrev SL := St → Option (List VV × St)
def SndL (G : Gl) (d : Nat) (sc : Scope) (es : List Expr) (f : SL) : Prop :=
  ∀ (c : Cx) (ev : Env) (σ σ' : St) (vs : List VV) (m : Str → Option Value) (N X : List (Addr × Obj)) (s : Shared) (pos : Pos) (Q : List Value → Shared → Prop) (E : Value → Shared → Prop),
    c.Ok G d → ev.scope = sc → Rel G c ev σ m N X s → f σ = some (vs, σ') →
    (∀ m' N' s' xs, Rel G c ev σ' m' N' X s' → adr N <+: adr N' → VRs c.q (adr N') vs xs → Q xs s') → wpAny (model G.prog G.w) c.A (spliced (backTo pos (starEach es ev))) Q E s
def lNil : SL := fun σ => some ([], σ)
def lCons (f : SE) (g : SL) : SL := fun σ => match f σ with
  | some (v, σ₁) => match g σ₁ with
    | some (vs, σ₂) => some (v :: vs, σ₂)
    | .none => .none
  | .none => .none
theorem SndL.nil : SndL G d sc [] lNil := by
  intro c ev σ σ' vs m N X s pos Q E ok hs R h K
  cases h
  exact wpAny_items_nil (K _ _ _ _ R pfx_rfl trivial)
theorem SndL.cons {e : Expr} {es : List Expr} {f : SE} {g : SL} (he : Snd G d sc e f) (hr : SndL G d sc es g) (hst : ∀ env, starEach (e :: es) env = (false, eval e env) :: starEach es env) : SndL G d sc (e :: es) (lCons f g) := by
  intro c ev σ σ' vs m N X s pos Q E ok hs R h K
  unfold lCons at h
  split at h
  · rename_i v σ₁ h1
    split at h
    · rename_i vs' σ₂ h2
      cases h
      exact wpAny_items_cons (he c ev σ σ₁ v m N X s _ E ok hs R h1 fun m1 N1 s1 x R1 p1 v1 => hr c ev σ₁ _ vs' m1 N1 X s1 pos _ E ok hs R1 h2 fun m2 N2 s2 xs R2 p2 v2 =>
        K _ _ _ _ R2 (p1.trans p2) ⟨v1.mono p2, v2⟩) (hst ev)
    · cases h
  · cases h
/-- a new own object, handed on -/
def newO (o : VO) (σ : St) : Option (VV × St) := match σ.H.push o with
  | some H' => some (.ref σ.H.n, { σ with H := H' })
  | .none => .none
theorem new_at {c : Cx} {ev : Env} {σ σ' : St} {v : VV} {m : Str → Option Value} {N X : List (Addr × Obj)} {s : Shared} {o : VO} {a : Addr} {ob : Obj} {h' : Heap} {Q : Value → Shared → Prop} {tk : Nat} (R : Rel G c ev σ m N X s)
    (h : newO o σ = some (v, σ')) (k : ∀ b x, s.heap.get? b = some x → h'.get? b = some x) (ha : s.heap.objs.size ≤ a) (hg : h'.get? a = some ob) (ho : OR G.S c.q (adr N ++ [a]) o ob) (K : Kv G c ev σ' N X v Q) : Q (.ref a) { s with heap := h', toks := tk } := by
  unfold newO at h
  split at h
  · rename_i H' hp
    cases h
    refine K _ _ _ _ (R.push hp tk k ha hg ho) pfx_push ⟨a, ?_, rfl⟩
    rw [R.hp.1, adr, List.map_append, List.getElem?_append_right (by simp)]; simp
  · cases h
theorem new_atN {c : Cx} {ev : Env} {σ σ' : St} {v : VV} {m : Str → Option Value} {N X : List (Addr × Obj)} {s : Shared} {o : VO} {a : Addr} {ob : Obj} {h' : Heap} {Q : Value → Shared → Prop} {tk : Nat} (R : Rel G c ev σ m N X s)
    (h : newO o σ = some (v, σ')) (F' : Fr c.h₀ c.L h' m) (N' : News c.h₀ c.L h' ((a, ob) :: (N ++ X))) (ha : s.heap.objs.size ≤ a) (ho : OR G.S c.q (adr N ++ [a]) o ob) (K : Kv G c ev σ' N X v Q) : Q (.ref a) { s with heap := h', toks := tk } := by
  unfold newO at h
  split at h
  · rename_i H' hp
    cases h
    refine K _ _ _ _ (R.pushN hp tk F' N' ha ho) pfx_push ⟨a, ?_, rfl⟩
    rw [R.hp.1, adr, List.map_append, List.getElem?_append_right (by simp)]; simp
  · cases h
theorem keeps_push {h : Heap} {o : Obj} : ∀ b x, h.get? b = some x → (h.push o).get? b = some x := fun _ _ e => Heap.get?_push_of_some _ e
theorem pfx_snoc {l : List Addr} {a : Addr} : l <+: l ++ [a] := ⟨[a], rfl⟩
def eTup (g : SL) : SE := fun σ => match g σ with
  | some (vs, σ₁) => match Nat.blt vs.length 100000 with
    | true => newO (.tup vs) σ₁
    | false => .none
  | .none => .none
def eLst (g : SL) : SE := fun σ => match g σ with
  | some (vs, σ₁) => match Nat.blt vs.length 100000 with
    | true => newO (.list vs) σ₁
    | false => .none
  | .none => .none
theorem small_line {n : Nat} (h : Nat.blt n 100000 = true) : n ≤ sizeLine := by have := bltN h; rw [sizeLine_eq]; omega
theorem Snd.tup {es : List Expr} {k pos} {g : SL} (h : SndL G d sc es g) : Snd G d sc (.Tuple es k pos) (eTup g) := by
  intro c ev σ σ' v m N X s Q E ok hs R hf K
  unfold eTup at hf
  split at hf
  · rename_i vs σ₁ h1
    split at hf
    · rename_i hb
      refine wpAny_Tuple (h c ev σ σ₁ vs m N X s pos _ E ok hs R h1 fun m1 N1 s1 xs R1 p1 v1 => ⟨by rw [← v1.length]; exact small_line hb, ?_⟩)
      exact new_at (tk := s1.toks) R1 hf keeps_push (Nat.le_refl _) (Heap.get?_push_size _ rfl) ⟨xs, 0, rfl, v1.mono pfx_snoc⟩ fun m2 N2 s2 x R2 p2 v2 => K _ _ _ _ R2 (p1.trans p2) v2
    · cases hf
  · cases hf
theorem Snd.lst {es : List Expr} {pos} {g : SL} (h : SndL G d sc es g) : Snd G d sc (.List es pos) (eLst g) := by
  intro c ev σ σ' v m N X s Q E ok hs R hf K
  unfold eLst at hf
  split at hf
  · rename_i vs σ₁ h1
    split at hf
    · rename_i hb
      refine wpAny_List (h c ev σ σ₁ vs m N X s pos _ E ok hs R h1 fun m1 N1 s1 xs R1 p1 v1 => ⟨by rw [← v1.length]; exact small_line hb, ?_⟩)
      exact new_at (tk := s1.toks) R1 hf keeps_push (Nat.le_refl _) (Heap.get?_push_size _ rfl) ⟨xs, 0, rfl, v1.mono pfx_snoc⟩ fun m2 N2 s2 x R2 p2 v2 => K _ _ _ _ R2 (p1.trans p2) v2
    · cases hf
  · cases hf
end
end Mine
open PySem PySem.W PyProof.Rows PySem.Calls
set_option Elab.async false
namespace Mine
section
variable {G : Gl} {d : Nat} {sc : Scope}

def eDict0 : SE := fun σ => newO .dict0 σ
theorem Snd.dict0 {pos} : Snd G d sc (.Dict [] [] pos) eDict0 := by
  intro c ev σ σ' v m N X s Q E ok hs R hf K
  exact wpAny_Dict_empty (new_at (tk := s.toks) R hf keeps_push (Nat.le_refl _) (Heap.get?_push_size _ rfl) ⟨0, rfl⟩ K)

/-! items -/
theorem list_at {c : Cx} {ev : Env} {σ : St} {m : Str → Option Value} {N X : List (Addr × Obj)} {s : Shared} (R : Rel G c ev σ m N X s) {k : Nat} {xs : List VV} {x : Value} (h : σ.H.get k = some (.list xs)) (hv : VR c.q (adr N) (.ref k) x) :
    ∃ a vs n, x = .ref a ∧ N[k]? = some (a, ({ cls := .type "list", data := .seq (vs : List Value).toArray n } : Obj)) ∧ s.heap.get? a = some { cls := .type "list", data := .seq (vs : List Value).toArray n } ∧ s.heap.IsList a vs.toArray ∧ VRs c.q (adr N) xs vs := by
  obtain ⟨a, e1, rfl⟩ := hv
  obtain ⟨a', ob, hN, vs, n, rfl, hr⟩ := R.hp.at h
  rw [adr_get hN] at e1; cases e1
  have g := (R.news _ (adr_mem hN)).1
  exact ⟨a, vs, n, rfl, hN, g, ⟨_, g, rfl, n, rfl⟩, hr⟩
theorem tup_at {c : Cx} {ev : Env} {σ : St} {m : Str → Option Value} {N X : List (Addr × Obj)} {s : Shared} (R : Rel G c ev σ m N X s) {k : Nat} {xs : List VV} {x : Value} (h : σ.H.get k = some (.tup xs)) (hv : VR c.q (adr N) (.ref k) x) :
    ∃ a vs, x = .ref a ∧ IsTup s.heap a (vs : List Value).toArray ∧ VRs c.q (adr N) xs vs := by
  obtain ⟨a, e1, rfl⟩ := hv
  obtain ⟨a', ob, hN, vs, n, rfl, hr⟩ := R.hp.at h
  rw [adr_get hN] at e1; cases e1
  have g := (R.news _ (adr_mem hN)).1
  exact ⟨a, vs, rfl, ⟨_, g, rfl, n, rfl⟩, hr⟩
/-- an index of Python's -/
def ixO (n : Nat) : Int → Option Nat
  | .ofNat k => match Nat.blt k n with | true => some k | false => .none
  | .negSucc k => match Nat.blt k n with | true => some (n - (k + 1)) | false => .none
def nth {α : Type} : List α → Nat → Option α
  | [], _ => .none
  | x :: _, 0 => some x
  | _ :: l, n + 1 => nth l n
theorem nth_eq {α : Type} : ∀ (l : List α) (n : Nat), nth l n = l[n]?
  | [], _ => rfl
  | _ :: _, 0 => rfl
  | _ :: l, n + 1 => nth_eq l n
def eIdx (f g : SE) : SE := eBin (fun a b σ => match a, b with
  | .ref k, .int z => (match σ.H.get k with
    | some (.list xs) => (match Nat.blt xs.length 100000 with
      | true => (match ixO xs.length z with
        | some j => (match nth xs j with
          | some v => some (v, σ)
          | .none => .none)
        | .none => .none)
      | false => .none)
    | some (.tup xs) => (match Nat.blt xs.length 100000 with
      | true => (match ixO xs.length z with
        | some j => (match nth xs j with
          | some v => some (v, σ)
          | .none => .none)
        | .none => .none)
      | false => .none)
    | _ => .none)
  | _, _ => .none) f g
theorem ixO_nn {n k j : Nat} (h : ixO n (.ofNat k) = some j) : j = k ∧ k < n := by
  simp only [ixO] at h
  split at h
  · rename_i hb; cases h; exact ⟨rfl, bltN hb⟩
  · cases h
theorem ixO_ng {n k j : Nat} (h : ixO n (.negSucc k) = some j) : j = n - (k + 1) ∧ k < n := by
  simp only [ixO] at h
  split at h
  · rename_i hb; cases h; exact ⟨rfl, bltN hb⟩
  · cases h
theorem seqIndex_ok {n j : Nat} {z : Int} (h : ixO n z = some j) : seqIndex? z n = some j := by
  cases z with
  | ofNat k =>
    obtain ⟨rfl, hk⟩ := ixO_nn h
    unfold seqIndex?
    have e : ¬ ((Int.ofNat j) < 0) := by show ¬ ((j : Int) < 0); omega
    simp only [e, if_false]
    rw [if_pos (by simp only [Bool.and_eq_true, decide_eq_true_eq]; show (0 : Int) ≤ (j : Int) ∧ (j : Int) < n; omega)]
    rfl
  | negSucc k =>
    obtain ⟨rfl, hk⟩ := ixO_ng h
    rw [seqIndex_neg (by omega) (by omega)]
    congr 1
    omega
theorem ixO_fits {n j : Nat} {z : Int} (h : ixO n z = some j) (hn : n < 100000) : -(2 ^ 63) ≤ z ∧ z < 2 ^ 63 := by
  cases z with
  | ofNat k => obtain ⟨rfl, hk⟩ := ixO_nn h; show -(2 ^ 63) ≤ (j : Int) ∧ (j : Int) < 2 ^ 63; omega
  | negSucc k => obtain ⟨rfl, hk⟩ := ixO_ng h; omega
theorem getItem_any {prog : Program} {w : World} {A : Around} {E : Value → Shared → Prop} {s : Shared} {l : Addr} {vs : List Value} {z : Int} {t : Tok} {j : Nat} {x : Value} {Q : Value → Shared → Prop} (hl : s.heap.IsList l vs.toArray) (h : ixO vs.length z = some j) (hn : vs.length < 100000) (hx : vs[j]? = some x) (hQ : Q x s) :
    wpAny (model prog w) A (getItem (.ref l) (.int z t)) Q E s := by
  cases z with
  | ofNat k =>
    obtain ⟨rfl, hk⟩ := ixO_nn h
    exact wpAny_getItem_list hl (Int.natCast_nonneg j) (by show (j : Int) < 2 ^ 63; omega) (by simpa using hx) hQ
  | negSucc k =>
    obtain ⟨rfl, hk⟩ := ixO_ng h
    refine wpAny_getItem_list_neg hl (by omega) (by simp only [List.size_toArray]; omega) (by omega) ?_ hQ
    have e : (Int.negSucc k + (vs.toArray.size : Nat)).toNat = vs.length - (k + 1) := by simp only [List.size_toArray]; omega
    rw [e]; simpa using hx
theorem Snd.idx {e i : Expr} {pos} {f g : SE} (he : Snd G d sc e f) (hi : Snd G d sc i g) (hsub : ∀ (a : Addr) (z : Int) (t : Tok), subscripted i false (.ref a) (.int z t) = operate [.ref a, .int z t] (getItem (.ref a) (.int z t))) : Snd G d sc (.Subscript e i pos) (eIdx f g) := by
  intro c ev σ σ' v m N X s Q E ok hs R hf K
  obtain ⟨a, σ₁, b, σ₂, h1, h2, h3⟩ := two hf
  refine Subscript_ (he c ev σ σ₁ a m N X s _ E ok hs R h1 fun m1 N1 s1 x R1 p1 v1 => hi c ev σ₁ σ₂ b m1 N1 X s1 _ E ok hs R1 h2 fun m2 N2 s2 y R2 p2 v2 => ?_)
  replace v1 := v1.mono p2
  clear h1 h2 R R1
  split at h3
  · rename_i k z
    obtain ⟨t, rfl⟩ := v2
    split at h3
    · rename_i xs hx
      split at h3
      · rename_i hb
        split at h3
        · rename_i j hj
          split at h3
          · rename_i u hu
            cases h3
            obtain ⟨a, vs, n, rfl, hN, hg, hl, hr⟩ := list_at R2 hx v1
            rw [nth_eq] at hu
            obtain ⟨w, hw, hvw⟩ := hr.get hu
            rw [hr.length] at hj hb
            exact tail_any hl.typeIs slot_list_getitem.lookup (getItem_any hl hj (bltN hb) hw (K _ _ _ _ R2 (p1.trans p2) hvw)) (hsub a z t)
          · cases h3
        · cases h3
      · cases h3
    · rename_i xs hx
      split at h3
      · rename_i hb
        split at h3
        · rename_i j hj
          split at h3
          · rename_i u hu
            cases h3
            obtain ⟨a, vs, rfl, hl, hr⟩ := tup_at R2 hx v1
            rw [nth_eq] at hu
            obtain ⟨w, hw, hvw⟩ := hr.get hu
            rw [hr.length] at hj hb
            have fz := ixO_fits hj (bltN hb)
            exact tail_any hl.typeIs slot_tuple_getitem.lookup (getItem_tuple hl fz.1 fz.2 (by simpa using seqIndex_ok hj) (by simpa using hw) (K _ _ _ _ R2 (p1.trans p2) hvw)) (hsub a z t)
          · cases h3
        · cases h3
      · cases h3
    · cases h3
  · cases h3

/-! slices of lists -/
def clipO (n : Nat) (dflt : Nat) : VV → Option Nat
  | .none => some dflt
  | .int (.ofNat k) => match Nat.ble k n with | true => some k | false => some n
  | .int (.negSucc k) => some (n - (k + 1))
  | _ => .none
def isM1 : VV → Bool
  | .int (.negSucc 0) => true
  | _ => false
def isNo : VV → Bool
  | .none => true
  | _ => false
/-- a part of a list: by two ends, or whole and backwards -/
def sliceO (xs : List VV) (lo hi st : VV) : Option (List VV) := match isNo st with
  | true => match clipO xs.length 0 lo, clipO xs.length xs.length hi with
    | some a, some b => some ((xs.drop a).take (b - a))
    | _, _ => .none
  | false => match isM1 st, isNo lo, isNo hi with
    | true, true, true => some xs.reverse
    | _, _, _ => .none
def SndP (G : Gl) (d : Nat) (sc : Scope) (e : Option Expr) (f : SE) : Prop :=
  ∀ (c : Cx) (ev : Env) (σ σ' : St) (v : VV) (m : Str → Option Value) (N X : List (Addr × Obj)) (s : Shared) (Q : Value → Shared → Prop) (E : Value → Shared → Prop),
    c.Ok G d → ev.scope = sc → Rel G c ev σ m N X s → f σ = some (v, σ') → Kv G c ev σ' N X v Q → wpAny (model G.prog G.w) c.A (evalPart e ev) Q E s
theorem SndP.none : SndP G d sc .none eNone := by
  intro c ev σ σ' v m N X s Q E ok hs R hf K
  cases hf
  rw [evalPart_none]; exact wpAny_pure (K _ _ _ _ R pfx_rfl rfl)
theorem SndP.some {e : Expr} {f : SE} (h : Snd G d sc e f) : SndP G d sc (some e) f := by
  intro c ev σ σ' v m N X s Q E ok hs R hf K
  rw [evalPart_some]; exact h c ev σ σ' v m N X s Q E ok hs R hf K
def eSlc (f fl fh fs : SE) : SE := fun σ => match f σ with
  | some (a, σ₁) => match fl σ₁ with
    | some (lo, σ₂) => match fh σ₂ with
      | some (hi, σ₃) => match fs σ₃ with
        | some (st, σ₄) => match a with
          | .ref k => match σ₄.H.get k with
            | some (.list xs) => match Nat.blt xs.length 100000, sliceO xs lo hi st with
              | true, some ys => newO (.list ys) σ₄
              | _, _ => .none
            | _ => .none
          | _ => .none
        | .none => .none
      | .none => .none
    | .none => .none
  | .none => .none
theorem part_of {q : Addr} {ρ : List Addr} {n df b : Nat} {v : VV} {x : Value} (h : clipO n df v = some b) (hv : VR q ρ v x) : ∃ o, IsPart x o := by
  unfold clipO at h
  split at h
  · cases hv; exact ⟨_, .none⟩
  · obtain ⟨t, rfl⟩ := hv; exact ⟨_, .int _ _⟩
  · obtain ⟨t, rfl⟩ := hv; exact ⟨_, .int _ _⟩
  · cases h
theorem clip_lo {q : Addr} {ρ : List Addr} {n b : Nat} {v : VV} {x : Value} {o : Option Int} (h : clipO n 0 v = some b) (hv : VR q ρ v x) (hp : IsPart x o) : kms_lo o n = b := by
  unfold clipO at h
  split at h
  · cases hv; cases hp; cases h; rfl
  · rename_i k
    obtain ⟨t, rfl⟩ := hv; cases hp
    have e : ¬ ((Int.ofNat k) < 0) := by show ¬ ((k : Int) < 0); omega
    unfold kms_lo
    simp only [if_neg e]
    split at h
    · rename_i hb; cases h
      have := Nat.le_of_ble_eq_true hb
      show min (b : Int).toNat n = b
      omega
    · rename_i hb; cases h
      have : ¬ k ≤ n := fun q => by rw [Nat.ble_eq_true_of_le q] at hb; cases hb
      show min (k : Int).toNat n = n
      omega
  · rename_i k
    obtain ⟨t, rfl⟩ := hv; cases hp; cases h
    unfold kms_lo
    simp only [if_pos (show Int.negSucc k < 0 by omega)]
    congr 1
  · cases h
theorem clip_hi {q : Addr} {ρ : List Addr} {n b : Nat} {v : VV} {x : Value} {o : Option Int} (h : clipO n n v = some b) (hv : VR q ρ v x) (hp : IsPart x o) : kms_hi o n = b := by
  unfold clipO at h
  split at h
  · cases hv; cases hp; cases h; rfl
  · rename_i k
    obtain ⟨t, rfl⟩ := hv; cases hp
    have e : ¬ ((Int.ofNat k) < 0) := by show ¬ ((k : Int) < 0); omega
    unfold kms_hi
    simp only [if_neg e]
    split at h
    · rename_i hb; cases h
      have := Nat.le_of_ble_eq_true hb
      show min (b : Int).toNat n = b
      omega
    · rename_i hb; cases h
      have : ¬ k ≤ n := fun q => by rw [Nat.ble_eq_true_of_le q] at hb; cases hb
      show min (k : Int).toNat n = n
      omega
  · rename_i k
    obtain ⟨t, rfl⟩ := hv; cases hp; cases h
    unfold kms_hi
    simp only [if_pos (show Int.negSucc k < 0 by omega)]
    congr 1
  · cases h
theorem VRs.drop {q : Addr} {ρ : List Addr} : ∀ {v : List VV} {x : List Value} (n : Nat), VRs q ρ v x → VRs q ρ (v.drop n) (x.drop n)
  | _, _, 0, h => h
  | [], [], _ + 1, _ => trivial
  | _ :: _, _ :: _, n + 1, ⟨_, b⟩ => b.drop n
theorem VRs.take {q : Addr} {ρ : List Addr} : ∀ {v : List VV} {x : List Value} (n : Nat), VRs q ρ v x → VRs q ρ (v.take n) (x.take n)
  | _, _, 0, _ => trivial
  | [], [], _ + 1, _ => trivial
  | _ :: _, _ :: _, n + 1, ⟨a, b⟩ => ⟨a, b.take n⟩
/-- what is picked, and that the parts are parts -/
theorem slice_is {q : Addr} {ρ : List Addr} {xs ys : List VV} {vs : List Value} {lo hi st : VV} {xl xh xt : Value} (h : sliceO xs lo hi st = some ys) (hv : VRs q ρ xs vs) (hl : VR q ρ lo xl) (hh : VR q ρ hi xh) (ht : VR q ρ st xt) :
    ∃ ol oh ot zs, IsPart xl ol ∧ IsPart xh oh ∧ IsPart xt ot ∧ ot ≠ some 0 ∧ slicePick vs.toArray ol oh ot = (zs : List Value).toArray ∧ VRs q ρ ys zs := by
  unfold sliceO at h
  split at h
  · rename_i hn
    have e : st = .none := by unfold isNo at hn; split at hn; rfl; cases hn
    subst e; cases ht
    split at h
    · rename_i a b ha hb
      cases h
      obtain ⟨ol, pl⟩ := part_of ha hl
      obtain ⟨oh, ph⟩ := part_of hb hh
      have e1 := clip_lo ha hl pl
      have e2 := clip_hi hb hh ph
      refine ⟨ol, oh, .none, _, pl, ph, .none, by simp, ?_, (hv.drop a).take (b - a)⟩
      rw [kmk_pick_nat _ (kms_bounds ol oh vs.toArray.size), List.size_toArray, ← hv.length, e1, e2]
    · cases h
  · split at h
    · rename_i h1 h2 h3
      cases h
      have el : lo = .none := by unfold isNo at h2; split at h2; rfl; cases h2
      have eh : hi = .none := by unfold isNo at h3; split at h3; rfl; cases h3
      have et : st = .int (-1) := by unfold isM1 at h1; split at h1; rfl; cases h1
      subst el; subst eh; subst et
      cases hl; cases hh
      obtain ⟨t, rfl⟩ := ht
      exact ⟨.none, .none, some (-1), _, .none, .none, .int _ _, by decide, krv_pick _, hv.reverse⟩
    · cases h
theorem Snd.slc {e : Expr} {lo hi st : Option Expr} {p pos} {f fl fh fs : SE} (he : Snd G d sc e f) (hlo : SndP G d sc lo fl) (hhi : SndP G d sc hi fh) (hst : SndP G d sc st fs)
    (hsub : ∀ a b : Addr, ∃ ops, subscripted (.Slice lo hi st p) false (.ref a) (.ref b) = operate ops (getItem (.ref a) (.ref b))) : Snd G d sc (.Subscript e (.Slice lo hi st p) pos) (eSlc f fl fh fs) := by
  intro c ev σ σ' v m N X s Q E ok hs R hf K
  unfold eSlc at hf
  split at hf
  · rename_i a σ₁ h1
    split at hf
    · rename_i vl σ₂ h2
      split at hf
      · rename_i vh σ₃ h3
        split at hf
        · rename_i vt σ₄ h4
          refine Subscript_ (he c ev σ σ₁ a m N X s _ E ok hs R h1 fun m1 N1 s1 x R1 p1 v1 => wpAny_Slice (hlo c ev σ₁ σ₂ vl m1 N1 X s1 _ E ok hs R1 h2 fun m2 N2 s2 xl R2 p2 w2 => hhi c ev σ₂ σ₃ vh m2 N2 X s2 _ E ok hs R2 h3 fun m3 N3 s3 xh R3 p3 w3 =>
            hst c ev σ₃ σ₄ vt m3 N3 X s3 _ E ok hs R3 h4 fun m4 N4 s4 xt R4 p4 w4 => ?_))
          replace v1 := v1.mono (p2.trans (p3.trans p4))
          replace w2 := w2.mono (p3.trans p4)
          replace w3 := w3.mono p4
          split at hf
          · rename_i k
            split at hf
            · rename_i xs hx
              split at hf
              · rename_i ys hb hy
                obtain ⟨b, vs, n, rfl, hN, hg, hl, hr⟩ := list_at R4 hx v1
                obtain ⟨ol, oh, ot, zs, pl, ph, pt, h0, hpk, hz⟩ := slice_is hy hr w2 w3 w4
                obtain ⟨ops, hops⟩ := hsub b s4.heap.objs.size
                refine tail_any (s := { s4 with heap := s4.heap.push { cls := .type "slice", data := .fields #[xl, xh, xt] } }) (hl.push _).typeIs slot_list_getitem.lookup
                  (wpAny_getItem_list_slice (hl.push _) (Heap.IsSliceOf.new ..) pl ph pt h0 ?_ (by rw [List.size_toArray, ← hr.length]; exact small_line hb)) hops
                rw [hpk]
                exact new_at (s := s4) (tk := s4.toks) (a := (s4.heap.push { cls := .type "slice", data := .fields #[xl, xh, xt] }).objs.size) R4 hf (fun b x e => keeps_push _ _ (keeps_push _ _ e)) (by rw [Heap.size_push]; exact Nat.le_add_right _ _) (Heap.get?_push_size _ rfl) ⟨zs, 0, rfl, hz.mono pfx_snoc⟩
                  fun m5 N5 s5 y R5 p5 v5 => K _ _ _ _ R5 (p1.trans (p2.trans (p3.trans (p4.trans p5)))) v5
              · cases hf
            · cases hf
          · cases hf
        · cases hf
      · cases hf
    · cases hf
  · cases hf

/-! lists put together -/
def rAdd : VV → VV → SE := fun a b σ => match a, b with
  | .ref i, .ref j => (match σ.H.get i, σ.H.get j with
    | some (.list xs), some (.list ys) => (match Nat.blt (xs.length + ys.length) 100000 with
      | true => newO (.list (xs ++ ys)) σ
      | false => .none)
    | _, _ => .none)
  | _, _ => .none
theorem radd_ok : OpOk G d (binaryOp .Add) rAdd := by
  intro c ev σ σ' v a b m N X s x y Q E ok R ha hb h K
  unfold rAdd at h
  split at h
  · split at h
    · rename_i xs ys h1 h2
      split at h
      · rename_i hn
        obtain ⟨a1, vs, n1, rfl, hN1, hg1, hl1, hr1⟩ := list_at R h1 ha
        obtain ⟨a2, ws, n2, rfl, hN2, hg2, hl2, hr2⟩ := list_at R h2 hb
        refine add_arrays R.fr R.nw hl1 hl2 (fun h' F' N' => ?_) (by simp only [List.size_toArray]; rw [← hr1.length, ← hr2.length]; exact small_line hn)
        exact new_atN (tk := s.toks) R h F' N' (Nat.le_refl _) ⟨vs ++ ws, 0, rfl, (hr1.append hr2).mono pfx_snoc⟩ K
      · cases h
    · cases h
  · cases h
def rMul : VV → VV → SE := fun a b σ => match a, b with
  | .ref i, .int (.ofNat n) => (match σ.H.get i with
    | some (.list [x]) => (match Nat.blt n 100000 with
      | true => newO (.list (List.replicate n x)) σ
      | false => .none)
    | _ => .none)
  | _, _ => .none
theorem VRs.replicate {q : Addr} {ρ : List Addr} {v : VV} {x : Value} (h : VR q ρ v x) : ∀ n, VRs q ρ (List.replicate n v) (List.replicate n x)
  | 0 => trivial
  | n + 1 => ⟨h, VRs.replicate h n⟩
theorem foldl_rep (x : Value) : ∀ (n : Nat) (acc : Array Value), List.foldl (fun x1 x2 => x1 ++ x2) acc (List.replicate n #[x]) = acc ++ (List.replicate n x).toArray
  | 0, acc => by simp
  | n + 1, acc => by
    rw [List.replicate_succ, List.foldl_cons, foldl_rep x n, List.replicate_succ]
    apply Array.ext'
    simp
theorem rmul_ok : OpOk G d (binaryOp .Mult) rMul := by
  intro c ev σ σ' v a b m N X s x y Q E ok R ha hb h K
  unfold rMul at h
  split at h
  · rename_i i n
    split at h
    · rename_i v0 h1
      split at h
      · rename_i hn
        obtain ⟨a1, vs, n1, rfl, hN1, hg1, hl1, hr1⟩ := list_at R h1 ha
        obtain ⟨t, rfl⟩ := hb
        match vs, hr1 with
        | [x0], hr1 =>
          have hn' := bltN hn
          have hx : -(2 ^ 63) ≤ Int.ofNat n ∧ Int.ofNat n < 2 ^ 63 := by show -(2 ^ 63) ≤ (n : Int) ∧ (n : Int) < 2 ^ 63; omega
          refine mul_list R.fr R.nw hg1 hx.1 hx.2 (by show 1 * (n : Int).toNat ≤ 2 ^ 24; omega) (fun h' F' N' => ?_)
          have e : List.foldl (fun x1 x2 => x1 ++ x2) #[] (List.replicate (if ([x0].toArray).isEmpty = true then 0 else (Int.ofNat n).toNat) [x0].toArray) = (List.replicate n x0).toArray := by
            have e1 : ([x0].toArray).isEmpty = false := rfl
            rw [e1]
            simp only [Bool.false_eq_true, if_false]
            show List.foldl (fun x1 x2 => x1 ++ x2) #[] (List.replicate n #[x0]) = _
            rw [foldl_rep]; simp
          rw [e] at N'
          exact new_atN (tk := s.toks) R h F' N' (Nat.le_refl _) ⟨List.replicate n x0, 0, rfl, (VRs.replicate hr1.1 n).mono pfx_snoc⟩ K
        | [], hr1 => cases hr1
        | _ :: _ :: _, hr1 => cases hr1.2
      · cases h
    · cases h
  · cases h
end
end Mine
open PySem PySem.W PyProof.Rows PySem.Calls
set_option Elab.async false
set_option maxRecDepth 100000
namespace Mine
section
variable {G : Gl} {d : Nat} {sc : Scope}

/-! calls of builtins -/
def CallOk (G : Gl) (d : Nat) (f : Value) (g : List VV → SE) : Prop :=
  ∀ (c : Cx) (ev : Env) (σ σ' : St) (v : VV) (vs : List VV) (m : Str → Option Value) (N X : List (Addr × Obj)) (s : Shared) (xs : List Value) (Q : Value → Shared → Prop) (E : Value → Shared → Prop),
    c.Ok G d → Rel G c ev σ m N X s → VRs c.q (adr N) vs xs → g vs σ = some (v, σ') → Kv G c ev σ' N X v Q → wpAny (model G.prog G.w) c.A (call f xs) Q E s
def eCall (g : List VV → SE) (l : SL) : SE := fun σ => match l σ with
  | some (vs, σ₁) => g vs σ₁
  | .none => .none
theorem callD {g : List VV → SE} {l : SL} {σ σ' : St} {v : VV} (h : eCall g l σ = some (v, σ')) : ∃ vs σ₁, l σ = some (vs, σ₁) ∧ g vs σ₁ = some (v, σ') := by
  unfold eCall at h
  split at h
  · rename_i vs σ₁ h1; exact ⟨vs, σ₁, h1, h⟩
  · cases h
theorem nameB {c : Cx} {ev : Env} {σ : St} {m : Str → Option Value} {N X : List (Addr × Obj)} {s : Shared} {x : Str} {pos : Pos} {v : Value} {Q E : Value → Shared → Prop} (ok : c.Ok G d) (hs : ev.scope = sc) (R : Rel G c ev σ m N X s)
    (e : nsIn G.K mainGlobals x = some .none) (hv : bootBuiltins x = some v) (hn : x ≠ "__name__") (hx : sc.names.lookup x = some .globalImplicit) (hd : (x == ("__debug__" : Str)) = false) (h : Q v s) :
    wpAny (model G.prog G.w) c.A (eval (.Name x pos) ev) Q E s :=
  Name_function_global R.ev.k (by unfold Env.kindOf; rw [hs]; exact hx)
    (loadGlobal_builtin (by rw [R.ev.g]; exact ok.T.g.keeps R.fr.keep) (mg_none_of ok.X ok.T.g e) (by rw [R.ev.b]; exact ok.T.b.keeps R.fr.keep) ((ok.T.builtins x hn).trans hv) h) hd
theorem Snd.callB {x : Str} {p pos : Pos} {args : List Expr} {a : Expr} {id : String} {g : List VV → SE} {l : SL} (hc : CallOk G d (.builtin id) g) (hl : SndL G d sc (a :: args) l)
    (e : nsIn G.K mainGlobals x = some .none) (hv : bootBuiltins x = some (.builtin id)) (hn : x ≠ "__name__") (hx : sc.names.lookup x = some .globalImplicit) (hd : (x == ("__debug__" : Str)) = false)
    (he : ∀ env, eval (.Call (.Name x p) (a :: args) [] pos) env = (do callWith pos (← eval (.Name x p) env) [] (backTo pos (starEach (a :: args) env)) (backToKw pos (keywordEach [] env))))
    (h1 : ∀ env, starEach (a :: args) env = (false, eval a env) :: starEach args env) (h2 : ∀ env, (backTo pos (starEach args env)).any (·.1) = false) : Snd G d sc (.Call (.Name x p) (a :: args) [] pos) (eCall g l) := by
  intro c ev σ σ' v m N X s Q E ok hs R h K
  obtain ⟨vs, σ₁, e1, e2⟩ := callD h
  refine Call_ (nameB ok hs R e hv hn hx hd (callWith_builtin1 ?_ (h1 ev) (h2 ev))) (he ev)
  exact hl c ev σ σ₁ vs m N X s pos _ E ok hs R e1 fun m1 N1 s1 xs R1 p1 v1 => hc c ev σ₁ σ' v vs m1 N1 X s1 xs Q E ok R1 v1 e2 fun m2 N2 s2 y R2 p2 v2 => K _ _ _ _ R2 (p1.trans p2) v2
theorem Snd.callT {x : Str} {p pos : Pos} {args : List Expr} {a : Expr} {id : String} {g : List VV → SE} {l : SL} (hc : CallOk G d (.type id) g) (hl : SndL G d sc (a :: args) l)
    (e : nsIn G.K mainGlobals x = some .none) (hv : bootBuiltins x = some (.type id)) (hn : x ≠ "__name__") (hx : sc.names.lookup x = some .globalImplicit) (hd : (x == ("__debug__" : Str)) = false)
    (he : ∀ env, eval (.Call (.Name x p) (a :: args) [] pos) env = (do callWith pos (← eval (.Name x p) env) [] (backTo pos (starEach (a :: args) env)) (backToKw pos (keywordEach [] env))))
    (h1 : ∀ env, starEach (a :: args) env = (false, eval a env) :: starEach args env) (h2 : ∀ env, (backTo pos (starEach args env)).any (·.1) = false) : Snd G d sc (.Call (.Name x p) (a :: args) [] pos) (eCall g l) := by
  intro c ev σ σ' v m N X s Q E ok hs R h K
  obtain ⟨vs, σ₁, e1, e2⟩ := callD h
  refine Call_ (nameB ok hs R e hv hn hx hd (Pv.callWith_type1 ?_ (h1 ev) (h2 ev))) (he ev)
  exact hl c ev σ σ₁ vs m N X s pos _ E ok hs R e1 fun m1 N1 s1 xs R1 p1 v1 => hc c ev σ₁ σ' v vs m1 N1 X s1 xs Q E ok R1 v1 e2 fun m2 N2 s2 y R2 p2 v2 => K _ _ _ _ R2 (p1.trans p2) v2

theorem vrs1 {q : Addr} {ρ : List Addr} {a : VV} {xs : List Value} (h : VRs q ρ [a] xs) : ∃ x, xs = [x] ∧ VR q ρ a x := by
  match xs, h with
  | [x], h => exact ⟨x, rfl, h.1⟩
  | _ :: _ :: _, h => cases h.2
theorem vrs2 {q : Addr} {ρ : List Addr} {a b : VV} {xs : List Value} (h : VRs q ρ [a, b] xs) : ∃ x y, xs = [x, y] ∧ VR q ρ a x ∧ VR q ρ b y := by
  match xs, h with
  | x :: ys, h => obtain ⟨y, rfl, r⟩ := vrs1 h.2; exact ⟨x, y, rfl, h.1, r⟩

def gLen : List VV → SE := fun vs σ => match vs with
  | [.ref k] => (match σ.H.get k with
    | some (.list xs) => (match Nat.blt xs.length 100000 with
      | true => some (.int (Int.ofNat xs.length), σ)
      | false => .none)
    | _ => .none)
  | _ => .none
theorem len_ok : CallOk G d (.builtin "len") gLen := by
  intro c ev σ σ' v vs m N X s xs Q E ok R hv h K
  unfold gLen at h
  split at h
  · split at h
    · rename_i ys hy
      split at h
      · rename_i hb
        cases h
        obtain ⟨x, rfl, r⟩ := vrs1 hv
        obtain ⟨a, ws, n, rfl, hN, hg, hl, hr⟩ := list_at R hy r
        have hb' := bltN hb
        refine call_len_list hl (by rw [List.size_toArray, ← hr.length]; omega) ?_
        exact K _ _ _ _ (R.tok _) pfx_rfl ⟨_, by rw [List.size_toArray, ← hr.length]; rfl⟩
      · cases h
    · cases h
  · cases h
def gDivmod : List VV → SE := fun vs σ => match vs with
  | [.int x, .int y] => (match Nat.beq y.natAbs 0, Nat.blt y.natAbs 1073741824 with
    | false, true => newO (.tup [.int (x.fdiv y), .int (x.fmod y)]) σ
    | _, _ => .none)
  | _ => .none
theorem divmod_ok : CallOk G d (.builtin "divmod") gDivmod := by
  intro c ev σ σ' v vs m N X s xs Q E ok R hv h K
  unfold gDivmod at h
  split at h
  · split at h
    · rename_i h1 h2
      obtain ⟨x, y, rfl, ⟨t, rfl⟩, ⟨u, rfl⟩⟩ := vrs2 hv
      refine divmod_int (natAbs_ne h1) ?_ (Or.inl (PyProof.noPylong_small (bltN h2)))
      exact new_at (tk := s.toks + 1 + 1) R h keeps_push (Nat.le_refl _) (Heap.get?_push_size _ rfl) ⟨_, 0, rfl, ⟨_, rfl⟩, ⟨_, rfl⟩, trivial⟩ K
    · cases h
  · cases h
def gList : List VV → SE := fun vs σ => match vs with
  | [.ref k] => (match σ.H.get k with
    | some (.list xs) => (match Nat.blt xs.length 100000 with
      | true => newO (.list xs) σ
      | false => .none)
    | _ => .none)
  | _ => .none
theorem list_ok : CallOk G d (.type "list") gList := by
  intro c ev σ σ' v vs m N X s xs Q E ok R hv h K
  unfold gList at h
  split at h
  · split at h
    · rename_i ys hy
      split at h
      · rename_i hb
        obtain ⟨x, rfl, r⟩ := vrs1 hv
        obtain ⟨a, ws, n, rfl, hN, hg, hl, hr⟩ := list_at R hy r
        refine call_list_seq a (.inl rfl) hg rfl rfl (fun h' c' k g => ?_) (by rw [List.size_toArray, ← hr.length]; exact small_line hb)
        exact new_at (tk := s.toks) R h k (Nat.le_refl _) g ⟨ws, c', rfl, hr.mono pfx_snoc⟩ K
      · cases h
    · cases h
  · cases h
def intsO : List VV → Option (List Int)
  | [] => some []
  | .int z :: l => match intsO l with
    | some r => some (z :: r)
    | .none => .none
  | _ => .none
theorem ints_of {q : Addr} {ρ : List Addr} : ∀ {vs : List VV} {xs : List Value} {r : List Int}, intsO vs = some r → VRs q ρ vs xs → IntsAre xs r
  | [], [], _, h, _ => by cases h; exact .nil
  | v :: vs, x :: xs, r, h, hv => by
    cases v with
    | int z =>
      simp only [intsO] at h
      split at h
      · rename_i r' hr
        cases h
        obtain ⟨t, rfl⟩ := hv.1
        exact .cons _ _ (ints_of hr hv.2)
      · cases h
    | _ => simp only [intsO] at h; cases h
def sumZ : List Int → Int
  | [] => 0
  | x :: l => x + sumZ l
theorem sumZ_eq : ∀ l : List Int, sumZ l = l.sum
  | [] => rfl
  | x :: l => by rw [sumZ, sumZ_eq l, List.sum_cons]
def gSum : List VV → SE := fun vs σ => match vs with
  | [.ref k] => (match σ.H.get k with
    | some (.list xs) => (match intsO xs with
      | some zs => some (.int (sumZ zs), σ)
      | .none => .none)
    | _ => .none)
  | _ => .none
theorem sum_ok : CallOk G d (.builtin "sum") gSum := by
  intro c ev σ σ' v vs m N X s xs Q E ok R hv h K
  unfold gSum at h
  split at h
  · split at h
    · rename_i ys hy
      split at h
      · rename_i zs hz
        cases h
        obtain ⟨x, rfl, r⟩ := vrs1 hv
        obtain ⟨a, ws, n, rfl, hN, hg, hl, hr⟩ := list_at R hy r
        obtain ⟨ys', hx⟩ := (ints_of hz hr).allInts.items
        have hl' := hl
        rw [hx] at hl'
        have hn : numsOf ws.toArray.toList = zs := by rw [show ws.toArray.toList = ws from rfl, (ints_of hz hr).numsOf]
        rw [hx, nums_intItems] at hn
        refine sum_intListG ok.hh hl' fun h' tk t' hk => ?_
        refine K _ _ _ _ (R.keeps tk hk) pfx_rfl ⟨t', ?_⟩
        rw [preSum_eq, List.take_of_length_le (by simp), hn, sumZ_eq]
      · cases h
    · cases h
  · cases h

/-! methods -/
def MethodIs (o : Expr) (x : Str) (args : List Expr) (apos pos : Pos) : Prop := ∀ env, ∃ pl : Sem Bool, eval (.Call (.Attribute o x apos) args [] pos) env = (do
      let ov ← eval o env
      standAt apos.atName
      let (f, first) ← holding [ov] (getMethod ov x pl)
      callWith pos f first (backTo pos (starEach args env)) [])
def gBits : VV → SE := fun a σ => match a with
  | .int z => some (.int (Int.ofNat (Builtin.Int.intBits z)), σ)
  | _ => .none
def eBits : SE → SE := eUn gBits
theorem Snd.bits {o : Expr} {x : Str} {apos pos : Pos} {f : SE} (ho : Snd G d sc o f) (hx : x = Str.ofString "bit_length") (he : MethodIs o x [] apos pos) : Snd G d sc (.Call (.Attribute o x apos) [] [] pos) (eBits f) := by
  subst hx
  intro c ev σ σ' v m N X s Q E ok hs R h K
  unfold eBits eUn at h
  split at h
  · rename_i a σ₁ h1
    unfold gBits at h
    split at h
    · rename_i z
      cases h
      obtain ⟨pl, he'⟩ := he ev
      refine MethodCall_ (ho c ev σ _ _ m N X s _ E ok hs R h1 fun m1 N1 s1 x R1 p1 v1 => ?_) he'
      obtain ⟨t, rfl⟩ := v1
      exact getMethod_int_bit_length (callWith_method0 (call_int_bit_length (K _ _ _ _ (R1.tok _) p1 ⟨_, rfl⟩)))
    · cases h
  · cases h
def putO (k : Nat) (o : VO) (σ : St) : Option (VV × St) := match σ.H.put k o with
  | some H' => some (.none, { σ with H := H' })
  | .none => .none
def eApp (f g : SE) : SE := fun σ => match f σ with
  | some (.ref k, σ₁) => match σ₁.H.get k with
    | some (.list _) => match g σ₁ with
      | some (v, σ₂) => match σ₂.H.get k with
        | some (.list xs) => match Nat.blt xs.length 100000 with
          | true => putO k (.list (xs ++ [v])) σ₂
          | false => .none
        | _ => .none
      | .none => .none
    | _ => .none
  | _ => .none
theorem put_at {c : Cx} {ev : Env} {σ σ' : St} {v : VV} {m : Str → Option Value} {N X : List (Addr × Obj)} {s : Shared} {k : Nat} {o o' : VO} {a : Addr} {ob ob' : Obj} {h' : Heap} {Q : Value → Shared → Prop} {tk : Nat} (R : Rel G c ev σ m N X s)
    (h : putO k o' σ = some (v, σ')) (ho : σ.H.get k = some o) (hN : N[k]? = some (a, ob)) (hs : Heap.SameBut a s.heap h') (hg : h'.get? a = some ob') (hr : OR G.S c.q (adr N) o' ob') (hns : ∀ l, o = .ns l → ∃ l', o' = .ns l')
    (K : Kv G c ev σ' N X v Q) : Q .none { s with heap := h', toks := tk } := by
  unfold putO at h
  split at h
  · rename_i H' hp
    cases h
    exact K _ _ _ _ (R.put ho hp tk hN hs hg hr hns) (by rw [adr_set hN]; exact pfx_rfl) rfl
  · cases h
theorem Snd.app {o e : Expr} {x : Str} {apos pos : Pos} {f g : SE} (ho : Snd G d sc o f) (hg : Snd G d sc e g) (hx : x = "append") (he : MethodIs o x [e] apos pos)
    (h1 : ∀ env, starEach [e] env = (false, eval e env) :: starEach [] env) : Snd G d sc (.Call (.Attribute o x apos) [e] [] pos) (eApp f g) := by
  subst hx
  intro c ev σ σ' v m N X s Q E ok hs R h K
  unfold eApp at h
  split at h
  · rename_i k σ₁ e1
    split at h
    · rename_i xs0 e2
      split at h
      · rename_i u σ₂ e3
        split at h
        · rename_i xs e4
          split at h
          · rename_i hb
            obtain ⟨pl, he'⟩ := he ev
            refine MethodCall_ (ho c ev σ _ _ m N X s _ E ok hs R e1 fun m1 N1 s1 y R1 p1 v1 => ?_) he'
            obtain ⟨a, ws, n, rfl, hN, hgt, hl, hr⟩ := list_at R1 e2 v1
            refine Calls.getMethod_list_append hgt rfl rfl (callWith_method1 ?_ (h1 ev) rfl)
            refine wpAny_items_cons (hg c ev σ₁ σ₂ u m1 N1 X s1 _ E ok hs R1 e3 fun m2 N2 s2 z R2 p2 v2 => wpAny_items_nil ?_) (h1 ev)
            obtain ⟨b, ws', n', e5, hN', hgt', hl', hr'⟩ := list_at R2 e4 (v1.mono p2)
            cases e5
            refine append_at hgt' (fun h' hs' hg' => ?_) (by rw [List.size_toArray, ← hr'.length]; exact small_line hb)
            refine put_at (tk := s2.toks) R2 h e4 hN' hs' hg' ⟨ws' ++ [z], n' + 1, ?_, hr'.append ⟨v2, trivial⟩⟩ (fun l e => by cases e) fun m3 N3 s3 y R3 p3 v3 => K _ _ _ _ R3 (p1.trans (p2.trans p3)) v3
            congr 2
            exact Array.ext' (by simp)
          · cases h
        · cases h
      · cases h
    · cases h
  · cases h
def eRev (f : SE) : SE := fun σ => match f σ with
  | some (.ref k, σ₁) => match σ₁.H.get k with
    | some (.list xs) => match Nat.blt xs.length 100000 with
      | true => putO k (.list xs.reverse) σ₁
      | false => .none
    | _ => .none
  | _ => .none
theorem Snd.rev {o : Expr} {x : Str} {apos pos : Pos} {f : SE} (ho : Snd G d sc o f) (hx : x = "reverse") (he : MethodIs o x [] apos pos) : Snd G d sc (.Call (.Attribute o x apos) [] [] pos) (eRev f) := by
  subst hx
  intro c ev σ σ' v m N X s Q E ok hs R h K
  unfold eRev at h
  split at h
  · rename_i k σ₁ e1
    split at h
    · rename_i xs e2
      split at h
      · rename_i hb
        obtain ⟨pl, he'⟩ := he ev
        refine MethodCall_ (ho c ev σ _ _ m N X s _ E ok hs R e1 fun m1 N1 s1 y R1 p1 v1 => ?_) he'
        obtain ⟨a, ws, n, rfl, hN, hgt, hl, hr⟩ := list_at R1 e2 v1
        refine getMethod_list_of PySem.F.slot_list_reverse PySem.F.type_list_reverse hl ⟨_, hgt, rfl⟩ (callWith_method0 ?_)
        refine call_meets PySem.F.slot_list_reverse ⟨_, hgt, rfl⟩ PySem.F.entry_list_reverse (PySem.F.args_list_reverse_1 _) (AutoListH.list_reverse_list_0 a ws.toArray n (by rw [List.size_toArray, ← hr.length]; exact small_line hb)) ⟨hgt, ?_⟩
        have e3 := Heap.get?_update_self (Obj.mapSeq fun x => x.reverse) hgt rfl
        refine put_at (tk := s1.toks) R1 h e2 hN (Heap.SameBut.update ..) e3 ⟨ws.reverse, n, ?_, hr.reverse⟩ (fun l e => by cases e) fun m3 N3 s3 y R3 p3 v3 => K _ _ _ _ R3 (p1.trans p3) v3
        simp [Obj.mapSeq]
      · cases h
    · cases h
  · cases h
end
end Mine
open PySem PySem.W PyProof.Rows PySem.Calls
set_option Elab.async false
set_option maxRecDepth 100000
namespace Mine
section
variable {G : Gl} {c : Cx} {ev : Env} {σ σ' : St} {m : Str → Option Value} {N X : List (Addr × Obj)} {s : Shared}
/-! the rest ledger -/
theorem Rel.fresh (R : Rel G c ev σ m N X s) {a : Addr} (ha : s.heap.objs.size ≤ a) : a ∉ adr N ∧ a ∉ adr X := by
  constructor
  · intro hm
    obtain ⟨p, hpm, rfl⟩ := List.mem_map.mp hm
    exact absurd (R.size_new p (List.mem_append_left _ hpm)) (Nat.not_lt.mpr ha)
  · intro hm
    obtain ⟨p, hpm, rfl⟩ := List.mem_map.mp hm
    exact absurd (R.size_new p (List.mem_append_right _ hpm)) (Nat.not_lt.mpr ha)
theorem EvOk.more {ρ : List Addr} {X' : List (Addr × Obj)} (e : EvOk c ρ X σ ev) (h : ∀ o, (ev.locals, o) ∈ X → (ev.locals, o) ∈ X') : EvOk c ρ X' σ ev := by
  refine ⟨e.g, e.b, e.k, ?_, e.cs⟩
  have l := e.l
  revert l
  cases σ.nsi with
  | none => exact id
  | some l => exact fun ⟨o, mm, a1, a2, a3⟩ => ⟨o, mm, h o a1, a2, a3⟩
theorem EvOk.mono {ρ ρ' : List Addr} (e : EvOk c ρ X σ ev) (pf : ρ <+: ρ') (h1 : σ'.nsi = σ.nsi) (h2 : σ'.cs = σ.cs) : EvOk c ρ' X σ' ev := by
  refine ⟨e.g, e.b, e.k, ?_, h2 ▸ e.cs.mono pf⟩
  rw [h1]
  have l := e.l
  revert l
  cases σ.nsi with
  | none => exact id
  | some l => exact fun ⟨o, mm, a1, a2, a3⟩ => ⟨o, mm, a1, a2, a3.mono pf⟩
theorem Rel.xpush (R : Rel G c ev σ m N X s) {a : Addr} {ob : Obj} {h' : Heap} (t : Nat) (k : ∀ b x, s.heap.get? b = some x → h'.get? b = some x) (ha : s.heap.objs.size ≤ a) (hg : h'.get? a = some ob) :
    Rel G c ev σ m N ((a, ob) :: X) { s with heap := h', toks := t } := by
  refine ⟨R.fr.keeps k, fun p hp => ?_, ?_, R.hp, R.tb, R.lo, R.ev.more fun _ h => .tail _ h, by have e := R.sh; rw [e]⟩
  · rcases List.mem_append.mp hp with hp | hp
    · exact (R.nw.grown k) p (List.mem_append_left _ hp)
    · rcases List.mem_cons.mp hp with rfl | hp
      · exact ⟨hg, (R.own ha).1, (R.own ha).2⟩
      · exact (R.nw.grown k) p (List.mem_append_right _ hp)
  · have n1 := R.nd
    have f := R.fresh ha
    rw [List.nodup_append] at n1 ⊢
    refine ⟨n1.1, List.nodup_cons.mpr ⟨f.2, n1.2.1⟩, fun x hx y hy => ?_⟩
    rcases List.mem_cons.mp hy with rfl | hy
    · exact fun q => f.1 (q ▸ hx)
    · exact n1.2.2 x hx y hy
theorem Rel.xne {a : Addr} {ob : Obj} (R : Rel G c ev σ m N ((a, ob) :: X) s) : ∀ p ∈ N ++ X, p.1 ≠ a := by
  have n1 := R.nd
  rw [List.nodup_append] at n1
  intro p hp
  rcases List.mem_append.mp hp with hp | hp
  · exact n1.2.2 p.1 (List.mem_map.mpr ⟨p, hp, rfl⟩) a (.head _)
  · exact fun q => (List.nodup_cons.mp n1.2.1).1 (q ▸ List.mem_map.mpr ⟨p, hp, rfl⟩)
theorem Rel.xset {a : Addr} {ob ob' : Obj} (R : Rel G c ev σ m N ((a, ob) :: X) s) (hne : ev.locals ≠ a) {h' : Heap} (t : Nat) (hs : Heap.SameBut a s.heap h') (hg : h'.get? a = some ob') :
    Rel G c ev σ m N ((a, ob') :: X) { s with heap := h', toks := t } := by
  have hm := R.nw (a, ob) (List.mem_append_right _ (.head _))
  refine ⟨R.fr.change hs hm.2.1 hm.2.2, fun p hp => ?_, R.nd, R.hp, R.tb, R.lo, R.ev.more fun o h => (List.mem_cons.mp h).elim (fun q => absurd (congrArg (·.1) q) hne) fun h => .tail _ h, by have e := R.sh; rw [e]⟩
  have old : ∀ p ∈ N ++ X, h'.get? p.1 = some p.2 ∧ p.1 ≠ c.L ∧ c.h₀.get? p.1 = none := fun p hp => by
    have q := R.nw p (by rcases List.mem_append.mp hp with h | h; exact List.mem_append_left _ h; exact List.mem_append_right _ (.tail _ h))
    exact ⟨(hs.2 p.1 (R.xne p hp)).trans q.1, q.2⟩
  rcases List.mem_append.mp hp with hp | hp
  · exact old p (List.mem_append_left _ hp)
  · rcases List.mem_cons.mp hp with rfl | hp
    · exact ⟨hg, hm.2⟩
    · exact old p (List.mem_append_right _ hp)
theorem Rel.xend {a : Addr} {ob : Obj} (R : Rel G c ev σ m N ((a, ob) :: X) s) (hne : ev.locals ≠ a) {h' : Heap} (t : Nat) (hs : Heap.ExtBut a s.heap h') :
    Rel G c ev σ m N X { s with heap := h', toks := t } := by
  have hm := R.nw (a, ob) (List.mem_append_right _ (.head _))
  have n1 := R.nd
  refine ⟨⟨R.fr.ns.extBut hs (Ne.symm hm.2.1), fun b o e => hs b o (fun q => ?_) (R.fr.keep b o e), R.fr.above⟩, fun p hp => ?_, ?_, R.hp, R.tb, R.lo, R.ev.more fun o h => (List.mem_cons.mp h).elim (fun q => absurd (congrArg (·.1) q) hne) fun h => h, by have e := R.sh; rw [e]⟩
  · rw [q, hm.2.2] at e; cases e
  · have q := R.nw p (by rcases List.mem_append.mp hp with h | h; exact List.mem_append_left _ h; exact List.mem_append_right _ (.tail _ h))
    exact ⟨hs p.1 _ (R.xne p hp) q.1, q.2⟩
  · rw [List.nodup_append] at n1 ⊢
    exact ⟨n1.1, (List.nodup_cons.mp n1.2.1).2, fun x hx y hy => n1.2.2 x hx y (.tail _ hy)⟩
theorem Rel.xdrop {a : Addr} {ob : Obj} (R : Rel G c ev σ m N ((a, ob) :: X) s) (hne : ev.locals ≠ a) : Rel G c ev σ m N X s := R.xend hne s.toks (Heap.ExtBut.refl _ _)
end

/-! iterators -/
inductive It where
  | lst (k i : Nat) | rng (x : Int) (n : Nat) | rev (k n : Nat)
def ItR (ρ : List Addr) : It → Obj → Prop
  | .lst k i, o => ∃ a, ρ[k]? = some a ∧ o.cls = .type "list_iterator" ∧ o.data = .fields #[.ref a, .int i 0]
  | .rng x n, o => o = { cls := .type "range_iterator", data := .fields #[rawInt x, rawInt n, rawInt 1] }
  | .rev k n, o => ∃ a, ρ[k]? = some a ∧ o.cls = .type "list_reverseiterator" ∧ o.data = .fields #[.ref a, rawInt ((n : Int) - 1)]
theorem ItR.mono {ρ ρ' : List Addr} (h : ρ <+: ρ') : ∀ {I : It} {o : Obj}, ItR ρ I o → ItR ρ' I o
  | .lst _ _, _, ⟨a, e, r⟩ => ⟨a, pfx_get h e, r⟩
  | .rng _ _, _, e => e
  | .rev _ _, _, ⟨a, e, r⟩ => ⟨a, pfx_get h e, r⟩
def itNext (H : VH) : It → Option (Option (VV × It))
  | .lst k i => match H.get k with
    | some (.list xs) => match nth xs i with
      | some v => some (some (v, .lst k (i + 1)))
      | .none => some .none
    | _ => .none
  | .rng x n => match n with
    | 0 => some .none
    | n + 1 => some (some (.int x, .rng (x + 1) n))
  | .rev k n => match H.get k with
    | some (.list xs) => match n with
      | 0 => some .none
      | n + 1 => match nth xs n with
        | some v => some (some (v, .rev k n))
        | .none => .none
    | _ => .none

section
variable {G : Gl} {d : Nat} {sc : Scope}
theorem next_ok {c : Cx} {ev : Env} {σ : St} {m : Str → Option Value} {N X : List (Addr × Obj)} {s : Shared} {it : Addr} {o : Obj} {I : It} {r : Option (VV × It)} {Q : Option Value → Shared → Prop} {E : Value → Shared → Prop} (ok : c.Ok G d)
    (R : Rel G c ev σ m N ((it, o) :: X) s) (hne : ev.locals ≠ it) (hI : ItR (adr N) I o) (h : itNext σ.H I = some r)
    (hs : ∀ v I' x o' s', r = some (v, I') → Rel G c ev σ m N ((it, o') :: X) s' → ItR (adr N) I' o' → VR c.q (adr N) v x → Q (some x) s') (he : ∀ s', r = .none → Rel G c ev σ m N X s' → Q none s') :
    wpAny (model G.prog G.w) c.A (pyNext (.ref it)) Q E s := by
  have hit := (R.nw (it, o) (List.mem_append_right _ (.head _))).1
  unfold itNext at h
  split at h
  · rename_i k i
    obtain ⟨a, e1, e2, e3⟩ := hI
    split at h
    · rename_i xs hx
      obtain ⟨a', vs, n, e4, hN, hg, hl, hr⟩ := list_at R hx ⟨a, e1, rfl⟩
      cases e4
      split at h
      · rename_i v hv
        cases h
        rw [nth_eq] at hv
        obtain ⟨x, hxv, hvr⟩ := hr.get hv
        refine wpAny_pyNext_list_item ⟨o, hit, e2, e3⟩ hl (by simpa using hxv) fun h' hi' hsb => ?_
        obtain ⟨o', g1, g2, g3⟩ := hi'
        exact hs _ _ _ _ _ rfl (R.xset hne s.toks hsb g1) ⟨a, e1, g2, g3⟩ hvr
      · rename_i hv
        cases h
        rw [nth_eq] at hv
        refine wpAny_pyNext_list_end ok.hh ⟨o, hit, e2, e3⟩ hl ?_ fun h' hx' => he _ rfl (R.xend hne s.toks hx')
        have : vs[i]? = none := by
          rw [List.getElem?_eq_none_iff] at hv ⊢
          rw [← hr.length]; exact hv
        simpa using this
    · cases h
  · rename_i x n
    cases hI
    split at h
    · cases h
      exact wpAny_pyNext_range_end ok.hh hit (Int.le_refl _) fun h' hx' => he _ rfl (R.xend hne s.toks hx')
    · rename_i n
      cases h
      refine wpAny_pyNext_range_item hit (by omega) fun h' hr' hsb => ?_
      refine hs _ _ _ _ _ rfl (R.xset hne _ hsb hr') ?_ ⟨_, rfl⟩
      show _ = _
      have : ((n + 1 : Nat) : Int) - 1 = (n : Int) := by omega
      rw [this]
  · rename_i k n
    obtain ⟨a, e1, e2, e3⟩ := hI
    split at h
    · rename_i xs hx
      obtain ⟨a', vs, n', e4, hN, hg, hl, hr⟩ := list_at R hx ⟨a, e1, rfl⟩
      cases e4
      split at h
      · cases h
        exact wpAny_pyNext_rev_end ok.hh ⟨o, hit, e2, e3⟩ fun h' hx' => he _ rfl (R.xend hne s.toks hx')
      · rename_i n
        split at h
        · rename_i v hv
          cases h
          rw [nth_eq] at hv
          obtain ⟨x, hxv, hvr⟩ := hr.get hv
          have e5 : ((n + 1 : Nat) : Int) - 1 = (n : Int) := by omega
          rw [e5] at e3
          refine wpAny_pyNext_rev_item ⟨o, hit, e2, e3⟩ hl (by simpa using hxv) fun h' hi' hsb => ?_
          obtain ⟨o', g1, g2, g3⟩ := hi'
          exact hs _ _ _ _ _ rfl (R.xset hne s.toks hsb g1) ⟨a, e1, g2, g3⟩ hvr
        · cases h
    · cases h

abbrev SI := St → Option (It × St)
def SndI (G : Gl) (d : Nat) (sc : Scope) (e : Expr) (f : SI) : Prop :=
  ∀ (c : Cx) (ev : Env) (σ σ' : St) (I : It) (m : Str → Option Value) (N X : List (Addr × Obj)) (s : Shared) (Q : Value → Shared → Prop) (E : Value → Shared → Prop),
    c.Ok G d → ev.scope = sc → Rel G c ev σ m N X s → f σ = some (I, σ') →
    (∀ m' N' s' it o, Rel G c ev σ' m' N' ((it, o) :: X) s' → adr N <+: adr N' → ItR (adr N') I o → Q (.ref it) s') →
    wpAny (model G.prog G.w) c.A (eval e ev) (fun x s₁ => wpAny (model G.prog G.w) c.A (pyIter x) Q E s₁) E s
def iLst (f : SE) : SI := fun σ => match f σ with
  | some (.ref k, σ₁) => match σ₁.H.get k with
    | some (.list _) => some (.lst k 0, σ₁)
    | _ => .none
  | _ => .none
theorem SndI.lst {e : Expr} {f : SE} (he : Snd G d sc e f) : SndI G d sc e (iLst f) := by
  intro c ev σ σ' I m N X s Q E ok hs R h K
  unfold iLst at h
  split at h
  · rename_i k σ₁ h1
    split at h
    · rename_i xs hx
      cases h
      refine he c ev σ _ _ m N X s _ E ok hs R h1 fun m1 N1 s1 x R1 p1 v1 => ?_
      obtain ⟨a, vs, n, rfl, hN, hg, hl, hr⟩ := list_at R1 hx v1
      refine wpAny_pyIter_list hl ?_
      exact K m1 N1 _ _ _ (R1.xpush s1.toks keeps_push (Nat.le_refl _) (Heap.get?_push_size _ rfl)) p1 ⟨a, adr_get hN, rfl, rfl⟩
    · cases h
  · cases h
def rngO (a b : Int) : Option It := match Nat.blt a.natAbs 100000, Nat.blt b.natAbs 100000 with
  | true, true => some (.rng a (b - a).toNat)
  | _, _ => .none
def iR1 (f : SE) : SI := fun σ => match f σ with
  | some (.int b, σ₁) => match rngO 0 b with
    | some I => some (I, σ₁)
    | .none => .none
  | _ => .none
def iR2 (f g : SE) : SI := fun σ => match f σ with
  | some (.int a, σ₁) => match g σ₁ with
    | some (.int b, σ₂) => match rngO a b with
      | some I => some (I, σ₂)
      | .none => .none
    | _ => .none
  | _ => .none
theorem rng_it {c : Cx} {ev : Env} {σ : St} {m : Str → Option Value} {N X : List (Addr × Obj)} {s : Shared} {a b : Int} {I : It} {t u v : Tok} {tk : Nat} {Q : Value → Shared → Prop} {E : Value → Shared → Prop} (R : Rel G c ev σ m N X s) (h : rngO a b = some I)
    (K : ∀ s' it o, Rel G c ev σ m N ((it, o) :: X) s' → ItR (adr N) I o → Q (.ref it) s') :
    wpAny (model G.prog G.w) c.A (pyIter (.ref s.heap.objs.size)) Q E { s with heap := s.heap.push { cls := .type "range", data := .fields #[.int a t, .int b u, .int 1 v] }, toks := tk } := by
  unfold rngO at h
  split at h
  · rename_i h1 h2
    cases h
    have b1 := bltN h1
    have b2 := bltN h2
    refine wpAny_pyIter_range (s := { s with heap := s.heap.push { cls := .type "range", data := .fields #[.int a t, .int b u, .int 1 v] }, toks := tk }) (IsRange.new _ a b 1 t u v) (small_one (by omega) (by omega) (by omega) (by omega)) ?_
    refine K _ _ _ (R.xpush tk (fun b x e => keeps_push _ _ (keeps_push _ _ e)) (by rw [Heap.size_push]; exact Nat.le_add_right _ _) (Heap.get?_push_size _ rfl)) ?_
    show _ = _
    have : Builtin.Range.rangeSize a b 1 = ((b - a).toNat : Int) := by
      rw [rangeSize_one]; split <;> omega
    rw [this]
  · cases h
theorem SndI.r1 {x : Str} {p pos : Pos} {e : Expr} {f : SE} (hf : Snd G d sc e f) (hb : nsIn G.K mainGlobals x = some .none) (hx : x = "range") (hk : sc.names.lookup x = some .globalImplicit)
    (he : ∀ env, eval (.Call (.Name x p) [e] [] pos) env = (do callWith pos (← eval (.Name x p) env) [] (backTo pos (starEach [e] env)) (backToKw pos (keywordEach [] env))))
    (h1 : ∀ env, starEach [e] env = (false, eval e env) :: starEach [] env) : SndI G d sc (.Call (.Name x p) [e] [] pos) (iR1 f) := by
  subst hx
  intro c ev σ σ' I m N X s Q E ok hs R h K
  unfold iR1 at h
  split at h
  · rename_i b σ₁ e1
    split at h
    · rename_i I' hI
      cases h
      refine Call_ (nameB ok hs R hb PyProof.Rows.boot_range (by decide) hk (by decide) (Pv.callWith_type1 ?_ (h1 ev) rfl)) (he ev)
      refine wpAny_items_cons (hf c ev σ _ _ m N X s _ E ok hs R e1 fun m1 N1 s1 y R1 p1 v1 => wpAny_items_nil ?_) (h1 ev)
      obtain ⟨t, rfl⟩ := v1
      exact call_range_1 (rng_it R1 hI fun s' it o R2 ir => K m1 N1 s' it o R2 p1 ir)
    · cases h
  · cases h
theorem SndI.r2 {x : Str} {p pos : Pos} {e e' : Expr} {f g : SE} (hf : Snd G d sc e f) (hg : Snd G d sc e' g) (hb : nsIn G.K mainGlobals x = some .none) (hx : x = "range") (hk : sc.names.lookup x = some .globalImplicit)
    (he : ∀ env, eval (.Call (.Name x p) [e, e'] [] pos) env = (do callWith pos (← eval (.Name x p) env) [] (backTo pos (starEach [e, e'] env)) (backToKw pos (keywordEach [] env))))
    (h1 : ∀ env, starEach [e, e'] env = (false, eval e env) :: starEach [e'] env) (h2 : ∀ env, starEach [e'] env = (false, eval e' env) :: starEach [] env) : SndI G d sc (.Call (.Name x p) [e, e'] [] pos) (iR2 f g) := by
  subst hx
  intro c ev σ σ' I m N X s Q E ok hs R h K
  unfold iR2 at h
  split at h
  · rename_i a σ₁ e1
    split at h
    · rename_i b σ₂ e2
      split at h
      · rename_i I' hI
        cases h
        refine Call_ (nameB ok hs R hb PyProof.Rows.boot_range (by decide) hk (by decide) (Pv.callWith_type1 ?_ (h1 ev) (by rw [h2 ev]; rfl))) (he ev)
        refine wpAny_items_cons (hf c ev σ _ _ m N X s _ E ok hs R e1 fun m1 N1 s1 y R1 p1 v1 => wpAny_items_cons (hg c ev σ₁ _ _ m1 N1 X s1 _ E ok hs R1 e2 fun m2 N2 s2 z R2 p2 v2 => wpAny_items_nil ?_) (h2 ev)) (h1 ev)
        obtain ⟨t, rfl⟩ := v1
        obtain ⟨u, rfl⟩ := v2
        exact call_range_2 (rng_it R2 hI fun s' it o R3 ir => K m2 N2 s' it o R3 (p1.trans p2) ir)
      · cases h
    · cases h
  · cases h
def iRev (f : SE) : SI := fun σ => match f σ with
  | some (.ref k, σ₁) => match σ₁.H.get k with
    | some (.list xs) => some (.rev k xs.length, σ₁)
    | _ => .none
  | _ => .none
theorem SndI.rev {x : Str} {p pos : Pos} {e : Expr} {f : SE} (hf : Snd G d sc e f) (hb : nsIn G.K mainGlobals x = some .none) (hx : x = "reversed") (hk : sc.names.lookup x = some .globalImplicit)
    (he : ∀ env, eval (.Call (.Name x p) [e] [] pos) env = (do callWith pos (← eval (.Name x p) env) [] (backTo pos (starEach [e] env)) (backToKw pos (keywordEach [] env))))
    (h1 : ∀ env, starEach [e] env = (false, eval e env) :: starEach [] env) : SndI G d sc (.Call (.Name x p) [e] [] pos) (iRev f) := by
  subst hx
  intro c ev σ σ' I m N X s Q E ok hs R h K
  unfold iRev at h
  split at h
  · rename_i k σ₁ e1
    split at h
    · rename_i xs hx
      cases h
      refine Call_ (nameB ok hs R hb PyProof.Rows.boot_reversed (by decide) hk (by decide) (Pv.callWith_type1 ?_ (h1 ev) rfl)) (he ev)
      refine wpAny_items_cons (hf c ev σ _ _ m N X s _ E ok hs R e1 fun m1 N1 s1 y R1 p1 v1 => wpAny_items_nil ?_) (h1 ev)
      obtain ⟨a, vs, n, rfl, hN, hg, hl, hr⟩ := list_at R1 hx v1
      refine call_reversed_list hl ?_
      have g1 : (s1.heap.push (revObj a ((vs.toArray.size : Int) - 1))).get? s1.heap.objs.size = some (revObj a ((vs.toArray.size : Int) - 1)) := Heap.get?_push_size _ rfl
      refine wpAny_pyIter_revIter ⟨_, g1, rfl, rfl⟩ ?_
      refine K m1 N1 _ _ _ (R1.xpush s1.toks keeps_push (Nat.le_refl _) g1) p1 ⟨a, adr_get hN, rfl, ?_⟩
      rw [hr.length]; rfl
    · cases h
  · cases h
end
end Mine
open PySem PySem.W PyProof.Rows PySem.Calls
set_option Elab.async false
set_option maxRecDepth 100000
namespace Mine
section
variable {G : Gl} {d : Nat} {sc : Scope}

/-! stores -/
inductive Tk where
  | loc (i : Nat) | cel (i : Nat)
def setT : Tk → VV → St → Option St
  | .loc i, v, σ => match σ.nsi with
    | .none => match Nat.blt i 57 with
      | true => some { σ with loc := ins σ.loc i v }
      | false => .none
    | some _ => .none
  | .cel i, v, σ => match lk σ.cs i with
    | some k => match σ.H.get k with
      | some (.cell _) => match σ.H.put k (.cell v) with
        | some H' => some { σ with H := H' }
        | .none => .none
      | some .cellE => match σ.H.put k (.cell v) with
        | some H' => some { σ with H := H' }
        | .none => .none
      | _ => .none
    | .none => .none
def TkOk (sc : Scope) (x : Str) : Tk → Prop
  | .loc i => x = nm i ∧ sc.names.lookup x = some .local
  | .cel i => x = nm i ∧ sc.names.lookup x = some .cell
abbrev Ku (G : Gl) (c : Cx) (σ' : St) (N X : List (Addr × Obj)) (Q : Shared → Prop) : Prop := ∀ m' N' s', Rel G c c.fenv σ' m' N' X s' → adr N <+: adr N' → Q s'
theorem store_ok {c : Cx} {σ σ' : St} {v : VV} {m : Str → Option Value} {N X : List (Addr × Obj)} {s : Shared} {x : Str} {y : Value} {t : Tk} {Q : Unit → Shared → Prop} {E : Value → Shared → Prop} (ok : c.Ok G d) (hs : c.fenv.scope = sc) (ht : TkOk sc x t)
    (R : Rel G c c.fenv σ m N X s) (h : setT t v σ = some σ') (hv : VR c.q (adr N) v y) (K : Ku G c σ' N X (Q ())) : wpAny (model G.prog G.w) c.A (storeName c.fenv x y) Q E s := by
  have hp : (c.fenv.scope.kind == .class || (c.fenv.scope.kind == .module && c.fenv.locals != c.fenv.globals)) = false := by rw [ok.fk]; rfl
  cases t with
  | loc i =>
    obtain ⟨rfl, hk⟩ := ht
    have hk' : c.fenv.kindOf (nm i) = some .local := by unfold Env.kindOf; rw [hs]; exact hk
    simp only [setT] at h
    split at h
    · rename_i hn
      split at h
      · rename_i hi
        cases h
        refine wpAny_storeName_local hk' (by rw [ok.fl]; exact R.fr.ns) (fun h' hn' hs' => ?_) hp
        rw [ok.fl] at hn' hs'
        refine K (fun y' => if y' = nm i then some y else m y') N _ ?_ pfx_rfl
        refine ⟨R.fr.set hn' hs', R.nw.set hs', R.nd, R.hp, R.tb, R.lo.ins (bltN hi) hv, ?_, by have e := R.sh; rw [e]⟩
        refine ⟨R.ev.g, R.ev.b, R.ev.k, ?_, R.ev.cs⟩
        have l := R.ev.l
        simp only [hn] at l ⊢
      · cases h
    · cases h
  | cel i =>
    obtain ⟨rfl, hk⟩ := ht
    have hk' : c.fenv.kindOf (nm i) = some .cell := by unfold Env.kindOf; rw [hs]; exact hk
    simp only [setT] at h
    split at h
    · rename_i k hc
      obtain ⟨a, h1, h2⟩ := R.ev.cs i k hc
      have key : ∀ o H', (∃ ob x0, N[k]? = some (a, ob) ∧ ob.data = .cell x0) → σ.H.get k = some o → (∀ l, o ≠ .ns l) → σ.H.put k (.cell v) = some H' → σ' = { σ with H := H' } → wpAny (model G.prog G.w) c.A (storeName c.fenv (nm i) y) Q E s := by
        rintro o H' ⟨ob, x0, hN, hd⟩ ho hno hp' rfl
        refine wpAny_storeName_cell ok.fk hk' h1 ⟨ob, (R.news _ (adr_mem hN)).1, hd⟩ fun h' hc' hs' => ?_
        obtain ⟨o', g1, g2⟩ := hc'
        refine K _ _ _ (R.put ho hp' s.toks hN hs' g1 ⟨y, g2, hv⟩ (fun l e => absurd e (hno l))) ?_
        rw [adr_set hN]; exact pfx_rfl
      split at h
      · rename_i u hu
        split at h
        · rename_i H' hH
          cases h
          obtain ⟨a', ob, hN, x, hd, hr⟩ := R.hp.at hu
          rw [adr_get hN] at h2; cases h2
          exact key _ _ ⟨ob, _, hN, hd⟩ hu (fun l e => by cases e) hH rfl
        · cases h
      · rename_i hu
        split at h
        · rename_i H' hH
          cases h
          obtain ⟨a', ob, hN, x, hd⟩ := R.hp.at hu
          rw [adr_get hN] at h2; cases h2
          exact key _ _ ⟨ob, _, hN, hd⟩ hu (fun l e => by cases e) hH rfl
        · cases h
      · cases h
    · cases h

/-! statements -/
def FlR (q : Addr) (ρ : List Addr) : Fl → Flow → Prop
  | .next, x => x = .next
  | .ret v, x => ∃ y, x = .ret y ∧ VR q ρ v y
def SndX (G : Gl) (d : Nat) (sc : Scope) (st : Stmt) (f : SS) : Prop :=
  ∀ (c : Cx) (σ σ' : St) (fl : Fl) (m : Str → Option Value) (N X : List (Addr × Obj)) (s : Shared) (Q : Flow → Shared → Prop) (E : Value → Shared → Prop),
    c.Ok G d → c.fenv.scope = sc → Rel G c c.fenv σ m N X s → f σ = some (fl, σ') →
    (∀ m' N' s' x, Rel G c c.fenv σ' m' N' X s' → adr N <+: adr N' → FlR c.q (adr N') fl x → Q x s') → wpAny (model G.prog G.w) c.A (exec st c.fenv) Q E s
def SndS (G : Gl) (d : Nat) (sc : Scope) (b : List Stmt) (f : SS) : Prop :=
  ∀ (c : Cx) (σ σ' : St) (fl : Fl) (m : Str → Option Value) (N X : List (Addr × Obj)) (s : Shared) (Q : Flow → Shared → Prop) (E : Value → Shared → Prop),
    c.Ok G d → c.fenv.scope = sc → Rel G c c.fenv σ m N X s → f σ = some (fl, σ') →
    (∀ m' N' s' x, Rel G c c.fenv σ' m' N' X s' → adr N <+: adr N' → FlR c.q (adr N') fl x → Q x s') → wpAny (model G.prog G.w) c.A (execs b c.fenv) Q E s
def sNil : SS := fun σ => some (.next, σ)
def sFail : SS := fun _ => .none
def sSeq (f g : SS) : SS := fun σ => match f σ with
  | some (.next, σ₁) => g σ₁
  | some (.ret v, σ₁) => some (.ret v, σ₁)
  | .none => .none
theorem SndS.nil : SndS G d sc [] sNil := by
  intro c σ σ' fl m N X s Q E ok hs R h K
  cases h
  exact wpAny_execs_nil (K _ _ _ _ R pfx_rfl rfl)
theorem SndS.fail {b : List Stmt} : SndS G d sc b sFail := by
  intro c σ σ' fl m N X s Q E ok hs R h K
  cases h
theorem SndX.fail {b : Stmt} : SndX G d sc b sFail := by
  intro c σ σ' fl m N X s Q E ok hs R h K
  cases h
theorem Snd.fail {b : Expr} : Snd G d sc b (fun _ => .none) := by
  intro c ev σ σ' v m N X s Q E ok hs R h K
  cases h
theorem SndS.cons {st : Stmt} {rest : List Stmt} {f g : SS} (hf : SndX G d sc st f) (hg : SndS G d sc rest g) : SndS G d sc (st :: rest) (sSeq f g) := by
  intro c σ σ' fl m N X s Q E ok hs R h K
  unfold sSeq at h
  refine wpAny_execs_cons ?_
  split at h
  · rename_i σ₁ h1
    refine hf c σ σ₁ .next m N X s _ E ok hs R h1 fun m1 N1 s1 x R1 p1 v1 => ?_
    cases v1
    exact hg c σ₁ σ' fl m1 N1 X s1 Q E ok hs R1 h fun m2 N2 s2 y R2 p2 v2 => K _ _ _ _ R2 (p1.trans p2) v2
  · rename_i v σ₁ h1
    cases h
    refine hf c σ _ _ m N X s _ E ok hs R h1 fun m1 N1 s1 x R1 p1 v1 => ?_
    obtain ⟨y, rfl, hy⟩ := v1
    exact K _ _ _ _ R1 p1 ⟨y, rfl, hy⟩
  · cases h
def sIf (t : SB) (f g : SS) : SS := fun σ => match t σ with
  | some (true, σ₁) => f σ₁
  | some (false, σ₁) => g σ₁
  | .none => .none
theorem SndX.if {t : Expr} {a b : List Stmt} {pos : Pos} {ft : SB} {f g : SS} (ht : SndT G d sc t ft) (ha : SndS G d sc a f) (hb : SndS G d sc b g) : SndX G d sc (.If t a b pos) (sIf ft f g) := by
  intro c σ σ' fl m N X s Q E ok hs R h K
  unfold sIf at h
  refine wpAny_If ?_
  split at h
  · rename_i σ₁ h1
    exact ht c c.fenv σ σ₁ true m N X s _ E ok hs R h1 fun m1 N1 s1 R1 p1 => by
      simp only [if_true]
      exact ha c σ₁ σ' fl m1 N1 X s1 Q E ok hs R1 h fun m2 N2 s2 x R2 p2 v2 => K _ _ _ _ R2 (p1.trans p2) v2
  · rename_i σ₁ h1
    exact ht c c.fenv σ σ₁ false m N X s _ E ok hs R h1 fun m1 N1 s1 R1 p1 => by
      simp only [Bool.false_eq_true, if_false]
      exact hb c σ₁ σ' fl m1 N1 X s1 Q E ok hs R1 h fun m2 N2 s2 x R2 p2 v2 => K _ _ _ _ R2 (p1.trans p2) v2
  · cases h
def sRet (f : SE) : SS := fun σ => match f σ with
  | some (v, σ₁) => some (.ret v, σ₁)
  | .none => .none
theorem SndX.ret {e : Expr} {pos : Pos} {f : SE} (he : Snd G d sc e f) : SndX G d sc (.Return (some e) pos) (sRet f) := by
  intro c σ σ' fl m N X s Q E ok hs R h K
  unfold sRet at h
  split at h
  · rename_i v σ₁ h1
    cases h
    exact wpAny_Return_some (he c c.fenv σ _ v m N X s _ E ok hs R h1 fun m1 N1 s1 x R1 p1 v1 => K _ _ _ _ R1 p1 ⟨x, rfl, v1⟩)
  · cases h
def sRetN : SS := fun σ => some (.ret .none, σ)
theorem SndX.retN {pos : Pos} : SndX G d sc (.Return .none pos) sRetN := by
  intro c σ σ' fl m N X s Q E ok hs R h K
  cases h
  exact wpAny_Return_none (K _ _ _ _ R pfx_rfl ⟨_, rfl, rfl⟩)
def sExp (f : SE) : SS := fun σ => match f σ with
  | some (_, σ₁) => some (.next, σ₁)
  | .none => .none
theorem SndX.exp {e : Expr} {pos : Pos} {f : SE} (he : Snd G d sc e f) (hi : ∀ env, env.scope.kind = .function → interactive env = false) (hw : ∀ env, swapsWith e .none pos.line env = pure false) : SndX G d sc (.Expr e pos) (sExp f) := by
  intro c σ σ' fl m N X s Q E ok hs R h K
  unfold sExp at h
  split at h
  · rename_i v σ₁ h1
    cases h
    exact wpAny_Expr_any (he c c.fenv σ _ v m N X s _ E ok hs R h1 fun m1 N1 s1 x R1 p1 v1 => K _ _ _ _ R1 p1 rfl) (hi _ ok.fk) (hw _)
  · cases h
def sSet (t : Tk) (f : SE) : SS := fun σ => match f σ with
  | some (v, σ₁) => match setT t v σ₁ with
    | some σ₂ => some (.next, σ₂)
    | .none => .none
  | .none => .none
theorem SndX.set {x : Str} {p pos : Pos} {e : Expr} {f : SE} {t : Tk} (he : Snd G d sc e f) (ht : TkOk sc x t) (hw : ∀ env, env.scope = sc → swapsWith e (some (.Name x p)) pos.line env = pure false) : SndX G d sc (.Assign [.Name x p] e pos) (sSet t f) := by
  intro c σ σ' fl m N X s Q E ok hs R h K
  unfold sSet at h
  split at h
  · rename_i v σ₁ h1
    split at h
    · rename_i σ₂ h2
      cases h
      exact wpAny_Assign_Name (he c c.fenv σ _ v m N X s _ E ok hs R h1 fun m1 N1 s1 x R1 p1 v1 => store_ok ok hs ht R1 h2 v1 fun m2 N2 s2 R2 p2 => K _ _ _ _ R2 (p1.trans p2) rfl) (hw _ hs)
    · cases h
  · cases h

/-! several targets -/
def setTs : List Tk → List VV → St → Option St
  | [], [], σ => some σ
  | t :: ts, v :: vs, σ => match setT t v σ with
    | some σ₁ => setTs ts vs σ₁
    | .none => .none
  | _, _, _ => .none
inductive Tgts (sc : Scope) : List Expr → List Tk → Prop
  | nil : Tgts sc [] []
  | cons {x : Str} {p : Pos} {ts : List Expr} {t : Tk} {tk : List Tk} : TkOk sc x t → Tgts sc ts tk → Tgts sc (.Name x p :: ts) (t :: tk)
theorem Tgts.shape {sc : Scope} {ts : List Expr} {tk : List Tk} (h : Tgts sc ts tk) (env : Env) : (assignEach ts env).length = tk.length ∧ (assignEach ts env).findIdx? (·.1) = none := by
  induction h with
  | nil => exact ⟨rfl, rfl⟩
  | cons h1 h2 ih =>
    refine ⟨congrArg (· + 1) ih.1, ?_⟩
    simp only [assignEach, List.findIdx?_cons, ih.2]
    rfl
theorem setTs_len : ∀ {ts : List Tk} {vs : List VV} {σ σ' : St}, setTs ts vs σ = some σ' → ts.length = vs.length
  | [], [], _, _, _ => rfl
  | t :: ts, v :: vs, σ, σ', h => by
    simp only [setTs] at h
    split at h
    · exact congrArg (· + 1) (setTs_len h)
    · cases h
  | [], _ :: _, _, _, h => by cases h
  | _ :: _, [], _, _, h => by cases h
theorem stores_ok {c : Cx} (ok : c.Ok G d) (hs : c.fenv.scope = sc) {X : List (Addr × Obj)} {E : Value → Shared → Prop} {ts : List Expr} {tk : List Tk} (ht : Tgts sc ts tk) : ∀ {vs : List VV} {xs : List Value} {σ σ' : St} {m : Str → Option Value} {N : List (Addr × Obj)} {s : Shared} {Q : Unit → Shared → Prop},
    Rel G c c.fenv σ m N X s → setTs tk vs σ = some σ' → VRs c.q (adr N) vs xs → Ku G c σ' N X (Q ()) → wpAny (model G.prog G.w) c.A (assignInOrder ((assignEach ts c.fenv).map (·.2)) xs) Q E s := by
  induction ht with
  | nil =>
    intro vs xs σ σ' m N s Q R h hv K
    cases vs with
    | nil => cases h; exact assignInOrder_nil (K _ _ _ R pfx_rfl)
    | cons v vs => cases h
  | cons h1 h2 ih =>
    intro vs xs σ σ' m N s Q R h hv K
    cases vs with
    | nil => cases h
    | cons v vs =>
      cases xs with
      | nil => cases hv
      | cons x xs =>
        simp only [setTs] at h
        split at h
        · rename_i σ₁ e1
          exact assignInOrder_cons (assign_Name (store_ok ok hs h1 R e1 hv.1 fun m1 N1 s1 R1 p1 => ih R1 h (hv.2.mono p1) fun m2 N2 s2 R2 p2 => K _ _ _ R2 (p1.trans p2)))
        · cases h
def sTup (ts : List Tk) (f : SE) : SS := fun σ => match f σ with
  | some (.ref k, σ₁) => match σ₁.H.get k with
    | some (.tup vs) => match setTs ts vs σ₁ with
      | some σ₂ => some (.next, σ₂)
      | .none => .none
    | _ => .none
  | _ => .none
theorem unpack_ok {c : Cx} {σ σ' : St} {m : Str → Option Value} {N X : List (Addr × Obj)} {s : Shared} {Q : Unit → Shared → Prop} {E : Value → Shared → Prop} {ts : List Expr} {tk : List Tk} {k : Nat} {vs : List VV} {y : Value} {e : Nat} {tp : Pos} (ok : c.Ok G d) (hs : c.fenv.scope = sc) (ht : Tgts sc ts tk)
    (R : Rel G c c.fenv σ m N X s) (hg : σ.H.get k = some (.tup vs)) (hy : VR c.q (adr N) (.ref k) y) (h : setTs tk vs σ = some σ') (K : Ku G c σ' N X (Q ())) : wpAny (model G.prog G.w) c.A (assign (.Tuple ts e tp) c.fenv y) Q E s := by
  obtain ⟨a, ws, rfl, hl, hr⟩ := tup_at R hg hy
  have sh := ht.shape c.fenv
  refine assign_Tuple_tuple ok.hh hl (by rw [sh.1, setTs_len h, hr.length, List.size_toArray]) sh.2 fun h' he => ?_
  have R' := R.keeps (h' := h') s.toks fun b o e => he b o (Nat.ne_of_lt (Heap.lt_size e)) e
  exact stores_ok ok hs ht R' h hr K
theorem SndX.tup {ts : List Expr} {k : Nat} {tp pos : Pos} {e : Expr} {f : SE} {tk : List Tk} (he : Snd G d sc e f) (ht : Tgts sc ts tk) (hw : ∀ env, env.scope = sc → swapsWithSole [.Tuple ts k tp] e pos.line env = pure false) (hw' : ∀ env, env.scope = sc → swappedStores [.Tuple ts k tp] e env = pure none) :
    SndX G d sc (.Assign [.Tuple ts k tp] e pos) (sTup tk f) := by
  intro c σ σ' fl m N X s Q E ok hs R h K
  unfold sTup at h
  split at h
  · rename_i k' σ₁ h1
    split at h
    · rename_i vs hg
      split at h
      · rename_i σ₂ h2
        cases h
        exact Assign_Tuple (he c c.fenv σ _ _ m N X s _ E ok hs R h1 fun m1 N1 s1 x R1 p1 v1 => unpack_ok ok hs ht R1 hg v1 h2 fun m2 N2 s2 R2 p2 => K _ _ _ _ R2 (p1.trans p2) rfl) (hw _ hs) (hw' _ hs)
      · cases h
    · cases h
  · cases h
/-- two targets, stored from the right -/
def sTupR (i j : Nat) (f : SE) : SS := fun σ => match f σ with
  | some (.ref k, σ₁) => match σ₁.H.get k with
    | some (.tup [v, w]) => match setT (.loc j) w σ₁ with
      | some σ₂ => match setT (.loc i) v σ₂ with
        | some σ₃ => some (.next, σ₃)
        | .none => .none
      | .none => .none
    | _ => .none
  | _ => .none
theorem SndX.tupR {ts : List Expr} {k : Nat} {tp pos : Pos} {e : Expr} {f : SE} {i j : Nat} {x y : Str} (he : Snd G d sc e f) (h1 : TkOk sc x (.loc i)) (h2 : TkOk sc y (.loc j)) (hw : ∀ env, env.scope = sc → swapsWithSole [.Tuple ts k tp] e pos.line env = pure false) (hw' : ∀ env, env.scope = sc → swappedStores [.Tuple ts k tp] e env = pure (some [x, y])) :
    SndX G d sc (.Assign [.Tuple ts k tp] e pos) (sTupR i j f) := by
  intro c σ σ' fl m N X s Q E ok hs R h K
  unfold sTupR at h
  split at h
  · rename_i k' σ₁ e1
    split at h
    · rename_i v w hg
      split at h
      · rename_i σ₂ e2
        split at h
        · rename_i σ₃ e3
          cases h
          refine Assign_Tuple_swapped (he c c.fenv σ _ _ m N X s _ E ok hs R e1 fun m1 N1 s1 z R1 p1 v1 => ?_) (hw _ hs) (hw' _ hs)
          obtain ⟨a, ws, ez, hl, hr⟩ := tup_at R1 hg v1
          obtain ⟨b1, b2, ew, r1, r2⟩ := vrs2 hr
          subst ez ew
          rw [show ([x, y] : List Str).length = ([b1, b2] : List Value).toArray.size from rfl]
          refine unpackItems_tuple ok.hh hl fun h' he' => ?_
          have R' := R1.keeps (h' := h') s1.toks fun b o e => he' b o (Nat.ne_of_lt (Heap.lt_size e)) e
          refine assignInOrder_cons (bindName_ (store_ok ok hs h2 R' e2 r2 fun m2 N2 s2 R2 p2 => assignInOrder_cons (bindName_ (store_ok ok hs h1 R2 e3 (r1.mono p2) fun m3 N3 s3 R3 p3 => assignInOrder_nil (K _ _ _ _ R3 (p1.trans (p2.trans p3)) rfl)))))
        · cases h
      · cases h
    · cases h
  · cases h

/-! items of lists stored -/
def sSub (fv fo fi : SE) : SS := fun σ => match fv σ with
  | some (v, σ₁) => match fo σ₁ with
    | some (.ref k, σ₂) => match fi σ₂ with
      | some (.int z, σ₃) => match σ₃.H.get k with
        | some (.list xs) => match Nat.blt xs.length 100000, ixO xs.length z with
          | true, some j => match putO k (.list (xs.set j v)) σ₃ with
            | some (_, σ₄) => some (.next, σ₄)
            | .none => .none
          | _, _ => .none
        | _ => .none
      | _ => .none
    | _ => .none
  | .none => .none
theorem setAt_ok {prog : Program} {w : World} {A : Around} {E : Value → Shared → Prop} {s : Shared} {l : Addr} {vs : List Value} {n : Nat} {z : Int} {j : Nat} {t : Tok} {v : Value} {Q : Unit → Shared → Prop} (ho : s.heap.get? l = some { cls := .type "list", data := .seq vs.toArray n }) (h : ixO vs.length z = some j) (hn : vs.length < 100000)
    (hQ : ∀ h', Heap.SameBut l s.heap h' → h'.get? l = some { cls := .type "list", data := .seq (vs.set j v).toArray n } → Q () { s with heap := h' }) : wpAny (model prog w) A (setItem (.ref l) (.int z t) v) Q E s := by
  have e4 : ∀ k, vs.toArray.setIfInBounds k v = (vs.set k v).toArray := fun k => by simp
  have up : ∀ k, (s.heap.update l (Obj.mapSeq fun x => x.setIfInBounds k v)).get? l = some { cls := .type "list", data := .seq (vs.set k v).toArray n } := fun k => by
    have q := PySem.IsL.update ho fun x => x.setIfInBounds k v
    rw [e4] at q
    simp only [List.size_toArray, List.length_set, BEq.rfl, if_true] at q
    exact q
  cases z with
  | ofNat k =>
    obtain ⟨rfl, hk⟩ := ixO_nn h
    have hj : Int.ofNat j < 2 ^ 63 := by show (j : Int) < 2 ^ 63; omega
    have hj2 : Int.ofNat j < (vs.toArray.size : Nat) := by rw [List.size_toArray]; show (j : Int) < (vs.length : Int); omega
    exact ki_setAt (n := n) ho (Int.natCast_nonneg j) hj hj2 (hQ _ (Heap.SameBut.update ..) (up j))
  | negSucc k =>
    obtain ⟨rfl, hk⟩ := ixO_ng h
    have e : (Int.negSucc k + (vs.toArray.size : Nat)).toNat = vs.length - (k + 1) := by rw [List.size_toArray]; omega
    have u := up (vs.length - (k + 1))
    rw [← e] at u hQ
    exact ki_setBack (n := n) ho (by omega) (by rw [List.size_toArray]; omega) (by omega) (hQ _ (Heap.SameBut.update ..) u)
theorem SndX.sub {o i e : Expr} {p pos : Pos} {fv fo fi : SE} (he : Snd G d sc e fv) (ho : Snd G d sc o fo) (hi : Snd G d sc i fi) (hw : ∀ env, env.scope = sc → swapsWith e (some (.Subscript o i p)) pos.line env = pure false) : SndX G d sc (.Assign [.Subscript o i p] e pos) (sSub fv fo fi) := by
  intro c σ σ' fl m N X s Q E ok hs R h K
  unfold sSub at h
  split at h
  · rename_i v σ₁ h1
    split at h
    · rename_i k σ₂ h2
      split at h
      · rename_i z σ₃ h3
        split at h
        · rename_i xs hx
          split at h
          · rename_i j hb hj
            split at h
            · rename_i u σ₄ h4
              cases h
              refine wpAny_Assign_Subscript (he c c.fenv σ _ _ m N X s _ E ok hs R h1 fun m1 N1 s1 x R1 p1 v1 => ho c c.fenv _ _ _ m1 N1 X s1 _ E ok hs R1 h2 fun m2 N2 s2 y R2 p2 v2 => hi c c.fenv _ _ _ m2 N2 X s2 _ E ok hs R2 h3 fun m3 N3 s3 z' R3 p3 v3 => ?_) (hw _ hs)
              obtain ⟨t, rfl⟩ := v3
              obtain ⟨a, ws, n, rfl, hN, hg, hl, hr⟩ := list_at R3 hx (v2.mono p3)
              rw [hr.length] at hj hb
              refine setAt_ok hg hj (bltN hb) fun h' hs' hg' => ?_
              exact put_at (tk := s3.toks) (Q := fun _ s' => Q .next s') R3 h4 hx hN hs' hg' ⟨_, n, rfl, hr.set (v1.mono (p2.trans p3))⟩ (fun l e => by cases e) fun m4 N4 s4 y4 R4 p4 v4 => K _ _ _ _ R4 (p1.trans (p2.trans (p3.trans p4))) rfl
            · cases h
          · cases h
        · cases h
      · cases h
    · cases h
  · cases h

/-! loops -/
def sWhile (t : SB) (b : SS) : Nat → SS
  | 0 => fun _ => .none
  | n + 1 => fun σ => match t σ with
    | some (true, σ₁) => match b σ₁ with
      | some (.next, σ₂) => sWhile t b n σ₂
      | some (.ret v, σ₂) => some (.ret v, σ₂)
      | .none => .none
    | some (false, σ₁) => some (.next, σ₁)
    | .none => .none
theorem SndX.while {t : Expr} {b : List Stmt} {pos : Pos} {ft : SB} {f : SS} (n : Nat) (ht : SndT G d sc t ft) (hb : SndS G d sc b f) : SndX G d sc (.While t b [] pos) (sWhile ft f n) := by
  intro c σ σ' fl m N X s Q E ok hs R h K
  refine wpAny_While (codeAny_whileLoop (fun k s' => ∃ σ₁ m₁ N₁, Rel G c c.fenv σ₁ m₁ N₁ X s' ∧ adr N <+: adr N₁ ∧ sWhile ft f k σ₁ = some (fl, σ')) ?_ n ⟨σ, m, N, R, pfx_rfl, h⟩)
  rintro k s1 ⟨σ₁, m₁, N₁, R1, p1, h1⟩
  cases k with
  | zero => cases h1
  | succ k =>
    simp only [sWhile] at h1
    split at h1
    · rename_i σ₂ e2
      refine ht c c.fenv _ _ true m₁ N₁ X s1 _ _ ok hs R1 e2 fun m2 N2 s2 R2 p2 => ?_
      simp only [if_true]
      split at h1
      · rename_i σ₃ e3
        refine hb c _ _ _ m2 N2 X s2 _ _ ok hs R2 e3 fun m3 N3 s3 x R3 p3 v3 => ?_
        cases v3
        exact ⟨k, Nat.lt_succ_self k, _, _, _, R3, p1.trans (p2.trans p3), h1⟩
      · rename_i v σ₃ e3
        cases h1
        refine hb c _ _ _ m2 N2 X s2 _ _ ok hs R2 e3 fun m3 N3 s3 x R3 p3 v3 => ?_
        obtain ⟨y, rfl, hy⟩ := v3
        exact K _ _ _ _ R3 (p1.trans (p2.trans p3)) ⟨y, rfl, hy⟩
      · cases h1
    · rename_i σ₂ e2
      cases h1
      refine ht c c.fenv _ _ false m₁ N₁ X s1 _ _ ok hs R1 e2 fun m2 N2 s2 R2 p2 => ?_
      simp only [Bool.false_eq_true, if_false]
      exact wpAny_execs_nil (K _ _ _ _ R2 (p1.trans p2) rfl)
    · cases h1
def forL (st : VV → St → Option St) (b : SS) : Nat → It → SS
  | 0, _ => fun _ => .none
  | n + 1, I => fun σ => match itNext σ.H I with
    | some .none => some (.next, σ)
    | some (some (v, I')) => match st v σ with
      | some σ₁ => match b σ₁ with
        | some (.next, σ₂) => forL st b n I' σ₂
        | some (.ret u, σ₂) => some (.ret u, σ₂)
        | .none => .none
      | .none => .none
    | .none => .none
def sFor (n : Nat) (f : SI) (st : VV → St → Option St) (b : SS) : SS := fun σ => match f σ with
  | some (I, σ₁) => forL st b n I σ₁
  | .none => .none
theorem fenv_ne {c : Cx} {σ : St} {m : Str → Option Value} {N X : List (Addr × Obj)} {s : Shared} {a : Addr} {ob : Obj} (ok : c.Ok G d) (R : Rel G c c.fenv σ m N ((a, ob) :: X) s) : c.fenv.locals ≠ a := fun q =>
  (R.nw (a, ob) (List.mem_append_right _ (.head _))).2.1 (q.symm.trans ok.fl)
theorem SndX.for {x : Str} {p pos : Pos} {e : Expr} {b : List Stmt} {f : SI} {g : SS} {t : Tk} (n : Nat) (he : SndI G d sc e f) (ht : TkOk sc x t) (hb : SndS G d sc b g) (hf : ∀ env v, foldedSetIterable e env v = pure v) : SndX G d sc (.For (.Name x p) e b [] pos) (sFor n f (setT t) g) := by
  intro c σ σ' fl m N X s Q E ok hs R h K
  unfold sFor at h
  split at h
  · rename_i I₀ σ₀ e0
    refine wpAny_For (he c c.fenv σ _ _ m N X s _ E ok hs R e0 fun m0 N0 s0 it o0 R0 p0 i0 => ?_) (hf _)
    refine codeAny_forLoop (fun k s' => ∃ σ₁ m₁ N₁ o I, Rel G c c.fenv σ₁ m₁ N₁ ((it, o) :: X) s' ∧ ItR (adr N₁) I o ∧ adr N <+: adr N₁ ∧ forL (setT t) g k I σ₁ = some (fl, σ')) ?_ n ⟨_, _, _, _, _, R0, i0, p0, h⟩ (fun _ => rfl)
    rintro k s1 ⟨σ₁, m₁, N₁, o, I, R1, i1, p1, h1⟩
    cases k with
    | zero => cases h1
    | succ k =>
      simp only [forL] at h1
      split at h1
      · rename_i e1
        cases h1
        refine next_ok ok R1 (fenv_ne ok R1) i1 e1 (fun v I' x o' s' e => by cases e) fun s' _ R2 => ?_
        exact wpAny_execs_nil (K _ _ _ _ R2 p1 rfl)
      · rename_i v I' e1
        split at h1
        · rename_i σ₂ e2
          refine next_ok ok R1 (fenv_ne ok R1) i1 e1 (fun v' I'' x' o' s' e R2 i2 hv => ?_) fun s' e => by cases e
          cases e
          refine wpAny_assign_Name (store_ok ok hs ht R2 e2 hv fun m2 N2 s2 R3 p2 => ?_)
          split at h1
          · rename_i σ₃ e3
            refine hb c _ _ _ m2 N2 _ s2 _ _ ok hs R3 e3 fun m3 N3 s3 z R4 p3 v3 => ?_
            cases v3
            exact ⟨k, Nat.lt_succ_self k, _, _, _, _, _, R4, i2.mono (p2.trans p3), p1.trans (p2.trans p3), h1⟩
          · rename_i u σ₃ e3
            cases h1
            refine hb c _ _ _ m2 N2 _ s2 _ _ ok hs R3 e3 fun m3 N3 s3 z R4 p3 v3 => ?_
            obtain ⟨y, rfl, hy⟩ := v3
            exact K _ _ _ _ (R4.xdrop (fenv_ne ok R4)) (p1.trans (p2.trans p3)) ⟨y, rfl, hy⟩
          · cases h1
        · cases h1
      · cases h1
  · cases h
end
end Mine
open PySem PySem.W PyProof.Rows PySem.Calls
set_option Elab.async false
set_option maxRecDepth 100000
namespace Mine
/-! entering -/
inductive Pars (sc : Scope) : List Str → List Tk → Prop
  | nil : Pars sc [] []
  | cons {x : Str} {xs : List Str} {t : Tk} {ts : List Tk} : TkOk sc x t → Pars sc xs ts → Pars sc (x :: xs) (t :: ts)
def initP : List Tk → List VV → List (Nat × VV) → List (Nat × VV) → Option (List (Nat × VV) × List (Nat × VV))
  | [], [], l, c => some (l, c)
  | .loc i :: ts, v :: vs, l, c => match Nat.blt i 57 with
    | true => initP ts vs (ins l i v) c
    | false => .none
  | .cel i :: ts, v :: vs, l, c => match Nat.blt i 57 with
    | true => initP ts vs l (ins c i v)
    | false => .none
  | _, _, _, _ => .none
theorem initP_ok {q : Addr} {ρ : List Addr} {kindOf : Str → Option NameKind} {sc : Scope} (hk : ∀ x, kindOf x = sc.names.lookup x) {names : List Str} {ts : List Tk} (hp : Pars sc names ts) : ∀ {vs : List VV} {xs : List Value} {l c l' c' : List (Nat × VV)} {m cm : Str → Option Value},
    initP ts vs l c = some (l', c') → VRs q ρ vs xs → LocMap q ρ m l → LocMap q ρ cm c → LocMap q ρ (bindL kindOf (names.zip xs) m) l' ∧ LocMap q ρ (bindC kindOf (names.zip xs) cm) c' := by
  induction hp with
  | nil =>
    intro vs xs l c l' c' m cm h hv hl hc
    cases vs with
    | nil => cases h; exact ⟨hl, hc⟩
    | cons v vs => cases h
  | cons h1 h2 ih =>
    rename_i x xs0 t ts0
    intro vs xs l c l' c' m cm h hv hl hc
    cases vs with
    | nil => cases t <;> cases h
    | cons v vs =>
      cases xs with
      | nil => cases hv
      | cons y ys =>
        cases t with
        | loc i =>
          obtain ⟨rfl, hkd⟩ := h1
          simp only [initP] at h
          split at h
          · rename_i hb
            have e : kindOf (nm i) = some .local := (hk _).trans hkd
            show LocMap q ρ (bindL kindOf (xs0.zip ys) (if kindOf (nm i) = some .local then _ else m)) l' ∧ LocMap q ρ (bindC kindOf (xs0.zip ys) (if kindOf (nm i) = some .local then cm else _)) c'
            rw [if_pos e, if_pos e]
            exact ih h hv.2 (hl.ins (bltN hb) hv.1) hc
          · cases h
        | cel i =>
          obtain ⟨rfl, hkd⟩ := h1
          simp only [initP] at h
          split at h
          · rename_i hb
            have e : ¬ kindOf (nm i) = some .local := fun q => by rw [hk, hkd] at q; cases q
            show LocMap q ρ (bindL kindOf (xs0.zip ys) (if kindOf (nm i) = some .local then _ else m)) l' ∧ LocMap q ρ (bindC kindOf (xs0.zip ys) (if kindOf (nm i) = some .local then cm else _)) c'
            rw [if_neg e, if_neg e]
            exact ih h hv.2 hl (hc.ins (bltN hb) hv.1)
          · cases h
def pushCells (cv : List (Nat × VV)) : List Nat → VH → Option (VH × List (Nat × Nat))
  | [], H => some (H, [])
  | i :: r, H => match H.push (match lk cv i with | some v => .cell v | .none => .cellE) with
    | some H' => match pushCells cv r H' with
      | some (H'', cs) => some (H'', (i, H.n) :: cs)
      | .none => .none
    | .none => .none
section
variable {G : Gl} {d : Nat} {sc : Scope}
theorem lk_nil {α : Type} (i : Nat) : lk ([] : List (Nat × α)) i = .none := rfl
theorem cells_ok {c : Cx} {ev : Env} {m : Str → Option Value} {X : List (Addr × Obj)} {s : Shared} {cv : List (Nat × VV)} {cm : Str → Option Value} {b : Nat} {l : List (Nat × VV)} {ns : Option (List (Nat × VV))} :
    ∀ (order : List (Nat × Nat)) (cells : List (Addr × Obj)) (H H' : VH) (cs : List (Nat × Nat)) (N : List (Addr × Obj)), CellsAre cm (order.map fun p => (nm p.1, b + p.2)) cells → pushCells cv (order.map (·.1)) H = some (H', cs) →
      (∀ p ∈ order, p.1 < 57) → (order.map (·.2)).Nodup → (∀ p ∈ order, b + p.2 ∉ adr N ++ adr X) → (∀ p ∈ cells, s.heap.get? p.1 = some p.2 ∧ p.1 ≠ c.L ∧ c.h₀.get? p.1 = none) → LocMap c.q (adr N) cm cv →
      Rel G c ev ⟨H, l, [], ns⟩ m N X s →
      Rel G c ev ⟨H', l, [], ns⟩ m (N ++ cells) X s ∧ (∀ i k, lk cs i = some k → (∃ p ∈ order, p.1 = i) ∧ ∃ a, (order.map fun p => (nm p.1, b + p.2)).lookup (nm i) = some a ∧ (adr (N ++ cells))[k]? = some a)
  | [], cells, H, H', cs, N, Y, h, _, _, _, _, _, R => by
    cases Y
    cases h
    exact ⟨by rw [List.append_nil]; exact R, fun i k e => by cases e⟩
  | p :: order, cells, H, H', cs, N, Y, h, hi, hnd, hf, hc, lc, R => by
    cases Y with
    | cons hd Y' =>
      rename_i o cells'
      simp only [List.map_cons, pushCells] at h
      split at h
      · rename_i H₁ e1
        split at h
        · rename_i H₂ cs' e2
          cases h
          have hm := hc _ (.head _)
          have fr1 := hf p (.head _)
          have hor : OR G.S c.q (adr N ++ [b + p.2]) (match lk cv p.1 with | some v => .cell v | .none => .cellE) o := by
            cases q : lk cv p.1 with
            | none => exact ⟨_, hd⟩
            | some v =>
              obtain ⟨_, x, hx, hr⟩ := lc p.1 v q
              exact ⟨x, by rw [hd, hx], hr.mono pfx_snoc⟩
          have R1 := R.pushF (σ := ⟨H, l, [], ns⟩) e1 (h' := s.heap) s.toks R.fr (fun q hq => by
            rcases List.mem_cons.mp hq with rfl | hq
            · exact hm
            · exact R.nw q hq) fr1 hor
          rw [show ({ s with heap := s.heap, toks := s.toks } : Shared) = s from rfl] at R1
          have nd2 := List.nodup_cons.mp hnd
          obtain ⟨R2, k2⟩ := cells_ok order cells' H₁ H' cs' (N ++ [(b + p.2, o)]) Y' e2 (fun q hq => hi q (.tail _ hq)) nd2.2 (fun q hq hmem => by
            simp only [adr, List.map_append, List.map_cons, List.map_nil] at hmem
            rcases List.mem_append.mp hmem with hmem | hmem
            · rcases List.mem_append.mp hmem with hmem | hmem
              · exact hf q (.tail _ hq) (List.mem_append_left _ hmem)
              · have := List.mem_singleton.mp hmem
                exact nd2.1 (List.mem_map.mpr ⟨q, hq, by show q.2 = p.2; omega⟩)
            · exact hf q (.tail _ hq) (List.mem_append_right _ hmem)) (fun q hq => hc q (.tail _ hq)) (lc.mono pfx_push) R1
          have ea : (N ++ [(b + p.2, o)]) ++ cells' = N ++ (b + p.2, o) :: cells' := by simp
          rw [ea] at R2 k2
          refine ⟨R2, fun i k e => ?_⟩
          rw [lk_cons] at e
          by_cases hpi : p.1 = i
          · rw [if_pos hpi] at e
            cases e
            refine ⟨⟨p, .head _, hpi⟩, b + p.2, ?_, ?_⟩
            · rw [List.map_cons, List.lookup_cons, hpi]; simp
            · have : H.n = N.length := R.hp.1
              rw [this]; simp [adr]
          · rw [if_neg hpi] at e
            obtain ⟨⟨p', hp', ep⟩, a, h1, h2⟩ := k2 i k e
            refine ⟨⟨p', .tail _ hp', ep⟩, a, ?_, h2⟩
            rw [List.map_cons, List.lookup_cons]
            have hne : (nm i == nm p.1) = false := by
              rw [beq_eq_false_iff_ne]
              exact fun q => hpi (nm_inj _ _ (hi p (.head _)) (ep ▸ hi p' (.tail _ hp')) q.symm)
            rw [hne]; exact h1
        · cases h
      · cases h

/-! calls of the module's own functions -/
def flV : Fl → VV
  | .next => .none
  | .ret v => v
def gFun (ts : List Tk) (order : List Nat) (b : SS) : List VV → SE := fun vs σ => match initP ts vs [] [] with
  | some (l, cv) => match pushCells cv order σ.H with
    | some (H', cs) => match b ⟨H', l, cs, .none⟩ with
      | some (fl, σ₁) => some (flV fl, { σ with H := σ₁.H })
      | .none => .none
    | .none => .none
  | .none => .none
structure FnIs (G : Gl) (x : Str) (names : List Str) (params : Arguments) (body : List Stmt) (sc : Scope) (f : Addr) : Prop where
  ns : nsIn G.K mainGlobals x = some (some (.ref f))
  is : ∃ fo dV kV doc pm an cdv ct, G.K.lookup f = some fo ∧ fo.data = .func (fnX x x params body sc [] dV kV doc pm an cdv ct) ∧ codeIn G.K cdv x = true ∧ (∀ cd ql, G.cq sc cd ql → cdv = cd ∧ (x ++ ".<locals>." : Str) = ql) ∧
    (∀ xs : List Value, xs.length = names.length → bindArgs (fnX x x params body sc [] dV kV doc pm an cdv ct) ⟨xs, []⟩ = pure (names.zip xs))
def CallF (G : Gl) (d : Nat) (x : Str) (F : List VV → SE) : Prop :=
  ∃ f fo, nsIn G.K mainGlobals x = some (some (.ref f)) ∧ G.K.lookup f = some fo ∧ (∃ fd, fo.data = .func fd) ∧ CallOk G d (.ref f) F
theorem LocMap.nil {q : Addr} {ρ : List Addr} {m : Str → Option Value} : LocMap q ρ m [] := fun _ _ e => by cases e
theorem pars_mem {names : List Str} {ts : List Tk} (hp : Pars sc names ts) : ∀ {xs : List Value}, ∀ y ∈ names.zip xs, ∃ t ∈ ts, TkOk sc y.1 t := by
  induction hp with
  | nil => intro xs y hy; cases hy
  | cons h1 h2 ih =>
    intro xs y hy
    cases xs with
    | nil => cases hy
    | cons x xs =>
      rcases List.mem_cons.mp hy with rfl | hy
      · exact ⟨_, .head _, h1⟩
      · obtain ⟨t, ht, r⟩ := ih y hy
        exact ⟨t, .tail _ ht, r⟩
theorem look_shift (n i : Nat) : ∀ (order : List (Nat × Nat)), (∀ p ∈ order, p.1 < 57) → ((order.map fun p => (nm p.1, p.2)).lookup (nm i)).isSome = true → ((order.map fun p => (nm p.1, n + p.2)).lookup (nm i)).isSome = true
  | [], _, h => by cases h
  | p :: r, hi, h => by
    rw [List.map_cons, List.lookup_cons] at h ⊢
    cases hq : (nm i == nm p.1) with
    | true => rfl
    | false =>
      rw [hq] at h
      exact look_shift n i r (fun q hq => hi q (.tail _ hq)) h
theorem callF {x : Str} {names : List Str} {params : Arguments} {body : List Stmt} {f : Addr} {ts : List Tk} {order : List (Nat × Nat)} {fb : SS} (hF : FnIs G x names params body sc f) (hp : Pars sc names ts)
    (hb : SndS G d sc body fb) (ho : ∀ n, cellsFrom n sc.names [] = order.map fun p => (nm p.1, n + p.2)) (hi : ∀ p ∈ order, p.1 < 57) (hnd : (order.map (·.2)).Nodup) (hcin : ∀ i, Tk.cel i ∈ ts → ((order.map fun p => (nm p.1, p.2)).lookup (nm i)).isSome = true)
    (hck : ((cellsFrom 0 sc.names []).map (·.1)).Nodup) (hco : sc.isCoroutine = false) (hgen : sc.isGenerator = false) (hk : sc.kind = .function) : CallF G (d + 1) x (gFun ts (order.map (·.1)) fb) := by
  obtain ⟨ns, fo, dV, kV, doc, pm, an, cdv, ct, h1, h2, h3, h4, h5⟩ := hF
  refine ⟨f, fo, ns, h1, ⟨_, h2⟩, ?_⟩
  unfold CallOk
  intro c ev σ σ' v vs m N X s xs Q E ok R hv h K
  unfold gFun at h
  split at h
  · rename_i l cv e1
    split at h
    · rename_i H' cs e2
      split at h
      · rename_i fl σ₁ e3
        cases h
        have hfo : s.heap.get? f = some fo := R.fr.keep _ _ (ok.X f fo h1)
        have hlen : xs.length = names.length := by
          have a1 := hv.length
          have : ∀ {names : List Str} {ts : List Tk} {vs : List VV} {l c l' c'}, Pars sc names ts → initP ts vs l c = some (l', c') → vs.length = names.length := by
            intro names ts vs l c l' c' hp
            induction hp generalizing vs l c with
            | nil => intro h; cases vs with | nil => rfl | cons _ _ => cases h
            | cons h1 h2 ih =>
              rename_i t _
              intro h
              cases vs with
              | nil => cases t <;> cases h
              | cons v vs =>
                cases t with
                | loc i => simp only [initP] at h; split at h; exact congrArg (· + 1) (ih h); cases h
                | cel i => simp only [initP] at h; split at h; exact congrArg (· + 1) (ih h); cases h
          have a2 := this hp e1
          omega
        have hkind : ∀ n, ∀ y ∈ names.zip xs, sc.names.lookup y.1 = some .local ∨ (sc.names.lookup y.1 = some .cell ∧ ((cellsFrom n sc.names []).lookup y.1).isSome = true) := by
          intro n y hy
          obtain ⟨t, ht, hT⟩ := pars_mem hp y hy
          cases t with
          | loc i => exact .inl hT.2
          | cel i =>
            refine .inr ⟨hT.2, ?_⟩
            rw [ho n, hT.1]
            exact look_shift n i order hi (hcin i ht)
        refine wpAny_call (callX_cells (binds := names.zip xs) ok.B R.fr R.nw ok.T.nolimit ok.fr ok.ff ok.fk hfo h2 (codeRec_of (ok.X.keeps R.fr.keep) h3) (by have := ok.room; omega) (BindsTo.of_eq (h5 xs hlen)) hkind hck ?_ hco hgen hk)
        intro g L' h₁ tk cells FG F' N' Y B' st lt
        let c' : Cx := { A := c.A.deeper (envOfC x sc L' f cdv), A₀ := c.A, base := c.base, h₀ := g, outer := c.fenv :: c.outer, L := L', fenv := envOfC x sc L' f cdv, q := c.q, qv := c.qv, s₀ := c.s₀ }
        have ok' : c'.Ok G d := ⟨B', ok.X.keeps st, ok.T.keeps st, Around.frames_deeper B'.stack, rfl, hk, rfl, rfl, rfl, ok.hh, by have := ok.room; show c.A.depth + 1 + d < _; omega, by have := ok.units; show c.A.units + 3 + 8 * d + 64 < _; omega,
          let ⟨o, ho, r⟩ := ok.isl; ⟨o, st _ _ ho, r⟩, ok.isi, fun q hq => (ok.ch q hq).keeps st, (let ⟨o, ho⟩ := ok.sm; ⟨o, st _ _ ho⟩), fun cd ql hcq => h4 cd ql hcq⟩
        have lm := initP_ok (q := c.q) (ρ := adr N) (kindOf := (envOfC x sc L' f cdv).kindOf) (fun _ => rfl) hp e1 hv (LocMap.nil (m := fun _ => none)) (LocMap.nil (m := fun _ => none))
        have R0 : Rel G c' c'.fenv ⟨σ.H, l, [], .none⟩ (bindL (envOfC x sc L' f cdv).kindOf (names.zip xs) fun _ => none) N X { s with heap := h₁, toks := tk } :=
          ⟨F', fun p hp => N' p (List.mem_append_right _ hp), R.nd, R.hp, R.tb, lm.1, ⟨rfl, rfl, hk, rfl, fun i k e => by cases e⟩, by have e := R.sh; rw [e]⟩
        have fresh : ∀ a ∈ adr N ++ adr X, a < L' := fun a ha => by
          rcases List.mem_append.mp ha with ha | ha
          · obtain ⟨p, hp, rfl⟩ := List.mem_map.mp ha; exact lt p (List.mem_append_left _ hp)
          · obtain ⟨p, hp, rfl⟩ := List.mem_map.mp ha; exact lt p (List.mem_append_right _ hp)
        rw [ho (L' + 1)] at Y
        obtain ⟨R1, k1⟩ := cells_ok (c := c') (b := L' + 1) order cells σ.H H' cs N Y e2 hi hnd (fun p _ hm => Nat.lt_irrefl L' (Nat.lt_of_le_of_lt (Nat.le_trans (Nat.le_succ L') (Nat.le_add_right _ _)) (fresh _ hm))) (fun p hp => N' p (List.mem_append_left _ hp)) lm.2 R0
        have R2 : Rel G c' c'.fenv ⟨H', l, cs, .none⟩ (bindL (envOfC x sc L' f cdv).kindOf (names.zip xs) fun _ => none) (N ++ cells) X { s with heap := h₁, toks := tk } :=
          ⟨R1.fr, R1.nw, R1.nd, R1.hp, R1.tb, R1.lo, ⟨rfl, rfl, hk, rfl, fun i k e => by
            obtain ⟨_, a, q1, q2⟩ := k1 i k e
            exact ⟨a, by show (cellsFrom (L' + 1) sc.names []).lookup (nm i) = _; rw [ho (L' + 1)]; exact q1, q2⟩⟩, R1.sh⟩
        refine hb c' _ _ _ _ _ X _ _ _ ok' rfl R2 e3 fun m3 N3 s3 y R3 p3 v3 => ?_
        have pf : adr N <+: adr N3 := (show adr N <+: adr (N ++ cells) from ⟨adr cells, by simp [adr]⟩).trans p3
        refine leaveK_ R3.fr R3.nw fun FF NN => ?_
        refine K m N3 s3 _ ?_ pf ?_
        · exact ⟨FF, NN, R3.nd, R3.hp, R3.tb, R.lo.mono pf, R.ev.mono pf rfl rfl, by have e := R3.sh; exact e⟩
        · cases fl with
          | next => cases v3; exact rfl
          | ret u => obtain ⟨z, rfl, hz⟩ := v3; exact hz
      · cases h
    · cases h
  · cases h
end
end Mine
open PySem PySem.W PyProof.Rows PySem.Calls
set_option Elab.async false
set_option maxRecDepth 100000
namespace Mine
/-! closures -/
theorem clos_go {env : Env} (f : Str → Addr) : ∀ (l : List (Str × NameKind)) (acc : List (Str × Addr)), (∀ x ∈ l, x.2 = .free → env.cells.lookup x.1 = some (f x.1)) →
    (forIn (m := Sem) l acc fun x r => if (x.2 == NameKind.free) = true then (do let a ← cellOf env x.1; pure (ForInStep.yield ((x.1, a) :: r))) else pure (ForInStep.yield r)) = pure (((l.filter (·.2 == .free)).map fun x => (x.1, f x.1)).reverse ++ acc)
  | [], acc, _ => rfl
  | x :: l, acc, h => by
    rw [List.forIn_cons]
    cases hx : (x.2 == NameKind.free) with
    | false =>
      simp only [Bool.false_eq_true, if_false, pure_bind, List.filter_cons, hx]
      exact clos_go f l acc fun y hy => h y (.tail _ hy)
    | true =>
      have e : cellOf env x.1 = pure (f x.1) := by
        unfold cellOf
        rw [h x (.head _) (beq_iff_eq.mp hx)]
      simp only [if_true, e, pure_bind, List.filter_cons, hx]
      rw [clos_go f l _ fun y hy => h y (.tail _ hy)]
      simp
theorem closureFor_eq {scope : Scope} {env : Env} (f : Str → Addr) (h : ∀ x ∈ scope.names, x.2 = .free → env.cells.lookup x.1 = some (f x.1)) :
    closureFor scope env = pure (((scope.names.filter (·.2 == .free)).map fun x => (x.1, f x.1)).reverse) := by
  simp only [closureFor]
  have := clos_go f scope.names [] h
  rw [List.append_nil] at this
  rw [this, pure_bind]
def closM : List Nat → List (Nat × Nat) → List (Nat × Nat) → Option (List (Nat × Nat))
  | [], _, acc => some acc
  | i :: r, cs, acc => match lk cs i with
    | some k => match Nat.blt i 57 with
      | true => closM r cs ((i, k) :: acc)
      | false => .none
    | .none => .none
theorem closM_spec {cs : List (Nat × Nat)} : ∀ {fr : List Nat} {acc cl : List (Nat × Nat)}, closM fr cs acc = some cl → (∀ i ∈ fr, i < 57 ∧ ∃ k, lk cs i = some k) ∧ cl = (fr.map fun i => (i, (lk cs i).getD 0)).reverse ++ acc
  | [], acc, cl, h => by cases h; exact ⟨(fun _ h => by cases h), by simp⟩
  | i :: r, acc, cl, h => by
    simp only [closM] at h
    split at h
    · rename_i k hk
      split at h
      · rename_i hb
        obtain ⟨h1, h2⟩ := closM_spec h
        refine ⟨fun j hj => ?_, ?_⟩
        · rcases List.mem_cons.mp hj with rfl | hj
          · exact ⟨bltN hb, k, hk⟩
          · exact h1 j hj
        · rw [h2]; simp [hk]
      · cases h
    · cases h
theorem lk_fun {f : Nat → Nat} : ∀ (l : List Nat) (i k : Nat), lk (l.map fun j => (j, f j)) i = some k → i ∈ l ∧ k = f i
  | [], _, _, h => by cases h
  | j :: l, i, k, h => by
    rw [List.map_cons, lk_cons] at h
    by_cases e : j = i
    · rw [if_pos e] at h; cases h; exact ⟨e ▸ .head _, by rw [e]⟩
    · rw [if_neg e] at h
      obtain ⟨a, b⟩ := lk_fun l i k h
      exact ⟨.tail _ a, b⟩
theorem lookup_fun {f : Str → Addr} : ∀ (l : List Nat) (i : Nat), i ∈ l → (∀ j ∈ l, j < 57) → (l.map fun j => (nm j, f (nm j))).lookup (nm i) = some (f (nm i))
  | [], _, h, _ => by cases h
  | j :: l, i, h, hb => by
    rw [List.map_cons, List.lookup_cons]
    cases hq : (nm i == nm j) with
    | true =>
      have : nm i = nm j := beq_iff_eq.mp hq
      rw [this]
    | false =>
      rcases List.mem_cons.mp h with rfl | h
      · simp at hq
      · exact lookup_fun l i h fun k hk => hb k (.tail _ hk)
/-- what is captured -/
theorem capture {ρ : List Addr} {env : Env} {cs cl : List (Nat × Nat)} {scope : Scope} {fr : List Nat} (hcs : CsMap ρ env.cells cs) (hfr : (scope.names.filter (·.2 == .free)).map (·.1) = fr.map nm) (h : closM fr cs [] = some cl) :
    ∃ clos, closureFor scope env = pure clos ∧ CsMap ρ clos cl := by
  obtain ⟨h1, h2⟩ := closM_spec h
  rw [List.append_nil] at h2
  refine ⟨_, closureFor_eq (fun x => (env.cells.lookup x).getD 0) fun x hx hf => ?_, ?_⟩
  · have : x.1 ∈ (scope.names.filter (·.2 == .free)).map (·.1) := List.mem_map.mpr ⟨x, List.mem_filter.mpr ⟨hx, by simp [hf]⟩, rfl⟩
    rw [hfr] at this
    obtain ⟨i, hi, e⟩ := List.mem_map.mp this
    obtain ⟨_, k, hk⟩ := h1 i hi
    obtain ⟨a, ha, _⟩ := hcs i k hk
    rw [← e, ha]; rfl
  · have e : ((scope.names.filter (·.2 == .free)).map fun x => (x.1, (env.cells.lookup x.1).getD 0)) = fr.map fun i => (nm i, (env.cells.lookup (nm i)).getD 0) := by
      have := congrArg (List.map fun x => (x, (env.cells.lookup x).getD 0)) hfr
      simpa [List.map_map, Function.comp_def] using this
    intro i k hk
    rw [h2, ← List.map_reverse] at hk
    obtain ⟨hi, rfl⟩ := lk_fun fr.reverse i k hk
    have hi' := List.mem_reverse.mp hi
    obtain ⟨hlt, k, hk'⟩ := h1 i hi'
    obtain ⟨a, ha, hr⟩ := hcs i k hk'
    refine ⟨a, ?_, by rw [hk']; exact hr⟩
    rw [e, ← List.map_reverse]
    have := lookup_fun (f := fun x => (env.cells.lookup x).getD 0) fr.reverse i hi fun j hj => (h1 j (List.mem_reverse.mp hj)).1
    rw [this, ha]; rfl

section
variable {G : Gl} {d : Nat} {sc : Scope}
/-! defs within defs -/
def sDef (tix t : Nat) (fr : List Nat) (tk : Tk) : SS := fun σ => match closM fr σ.cs [] with
  | some cl => match σ.H.get tix with
    | some .tabE => match σ.H.put tix .junk with
      | some H1 => match H1.push (.code t) with
        | some H2 => match H2.put tix (.tabF t H1.n) with
          | some H3 => match H3.push (.fn t H1.n cl) with
            | some H4 => match setT tk (.ref H3.n) { σ with H := H4 } with
              | some σ' => some (.next, σ')
              | .none => .none
            | .none => .none
          | .none => .none
        | .none => .none
      | .none => .none
    | some (.tabF t' j) => match Nat.beq t' t, σ.H.push (.fn t j cl) with
      | true, some H1 => match setT tk (.ref σ.H.n) { σ with H := H1 } with
        | some σ' => some (.next, σ')
        | .none => .none
      | _, _ => .none
    | _ => .none
  | .none => .none
theorem adr_last {N : List (Addr × Obj)} {X : List (Addr × Obj)} {c : Cx} {ev : Env} {σ : St} {m : Str → Option Value} {s : Shared} (R : Rel G c ev σ m N X s) {a : Addr} {ob : Obj} : (adr (N ++ [(a, ob)]))[σ.H.n]? = some a := by
  rw [R.hp.1, adr, List.map_append, List.getElem?_append_right (by simp)]; simp
theorem SndX.defn {name : Str} {params : Arguments} {body : List Stmt} {scope : Scope} {pos : Pos} {tix t : Nat} {fr : List Nat} {tk : Tk} {cc P : Addr} {ql : Str} {sp : FnSpec} (hcq : G.cq sc (.ref cc) ql) (htab : G.tabs[tix]? = some (cc, P)) (hS : G.S t = some sp)
    (hsp : sp = { name := name, qual := ql ++ name, params := params, body := body, scope := scope, pos := pos }) (hfr : (scope.names.filter (·.2 == .free)).map (·.1) = fr.map nm) (ht : TkOk sc name tk)
    (hd0 : params.defaults = []) (hk0 : params.kw_defaults = []) (ha : ∀ env, annTrees params none env = []) : SndX G d sc (.FunctionDef name params body [] none [] scope none name pos) (sDef tix t fr tk) := by
  subst hsp
  intro c σ σ' fl m N X s Q E ok hs R h K
  unfold sDef at h
  split at h
  · rename_i cl hcl
    obtain ⟨clos, hclos, hcm⟩ := capture R.ev.cs hfr hcl
    obtain ⟨hcode, hqual⟩ := ok.cqo _ _ (hs ▸ hcq)
    have hqn : qualnameIn c.fenv name name = ql ++ name := by
      unfold qualnameIn
      have : (c.fenv.kindOf name == some .globalExplicit) = false := by
        unfold Env.kindOf
        rw [hs]
        cases tk with
        | loc i => rw [ht.2]; rfl
        | cel i => rw [ht.2]; rfl
      rw [this, hqual]; rfl
    refine nestDef_K hd0 hk0 (ha _) ?_
    rw [hqn]
    have hρ : (adr N)[tix]? = some P := pfx_get R.tb (by rw [List.getElem?_map, htab]; rfl)
    have hch := ok.ch (cc, P) (List.mem_of_getElem? htab)
    have hgs := ok.T.g.keeps R.fr.keep
    obtain ⟨bm, ob, b1, b2, b3, b4, b5, b6⟩ := ok.T.bmain
    have hbG : bm ≠ mainGlobals := fun q => by
      obtain ⟨o, es, ep, e, hd, _⟩ := ok.T.g
      rw [q, e] at b3; cases b3; rw [hd] at b6; cases b6
    split at h
    · rename_i hx
      obtain ⟨a', ot, hN, rfl⟩ := R.hp.at hx
      rw [adr_get hN] at hρ; cases hρ
      have hm := R.nw (P, tabObj #[]) (List.mem_append_left _ (adr_mem hN))
      have hgP : mainGlobals ≠ P := fun q => by
        obtain ⟨o, es, ep, e, hd, _⟩ := hgs
        rw [q, hm.1] at e; cases e; cases hd
      have hbP : bm ≠ P := fun q => by
        have e := R.fr.keep _ _ b3
        rw [q, hm.1] at e; cases e; cases b4
      split at h
      · rename_i H1 e1
        split at h
        · rename_i H2 e2
          split at h
          · rename_i H3 e3
            split at h
            · rename_i H4 e4
              split at h
              · rename_i σ₂ e5
                cases h
                refine makeFunction_K (mg := G.mg) hclos R.ev.g hgs hcode (hch.keeps R.fr.keep) hm.1 trivial rfl hgP ⟨bm, ob, b1, b2, hbG, hbP, R.fr.keep _ _ b3, b4, b5, b6⟩ fun c' ctv doc h' tk' hx' hge hlt hrec htb => ?_
                obtain ⟨c₂, oc, vs, tq, q1, hoc, hd, hv⟩ := hrec
                cases q1
                have R1 := R.putE (o' := .junk) hx e1 tk' hN hx' htb trivial (fun l e => by cases e)
                have frs := R.fresh hge
                have frs' : c' ∉ adr (N.set tix (P, tabObj (#[] ++ #[rawInt pos.line, rawInt pos.col, .ref c']))) ++ adr X := by
                  rw [adr_set hN]; exact fun q => (List.mem_append.mp q).elim frs.1 frs.2
                have own := R.own hge
                have R2 := R1.pushF (h' := h') (ob := oc) e2 tk' R1.fr (fun p hp => by
                  rcases List.mem_cons.mp hp with rfl | hp
                  · exact ⟨hoc, own.1, own.2⟩
                  · exact R1.nw p hp) frs' ⟨_, vs, tq, hS, hd, hv⟩
                have hN2 : (N.set tix (P, tabObj (#[] ++ #[rawInt pos.line, rawInt pos.col, .ref c'])) ++ [(c', oc)])[tix]? = some (P, tabObj (#[] ++ #[rawInt pos.line, rawInt pos.col, .ref c'])) := by
                  have hlt := lt_of_get hN
                  rw [List.getElem?_append_left (by simpa using hlt), List.getElem?_set_self hlt]
                have gx : H2.get tix = some .junk := by
                  rw [(VH.push_get e2).2, if_neg, (VH.put_get e1).2, if_pos rfl]
                  rw [(VH.put_get e1).1, R.hp.1]
                  exact Nat.ne_of_lt (lt_of_get hN)
                have ixn := adr_last (a := c') (ob := oc) R1
                have R3 := R2.putE (h' := h') (ob' := tabObj (#[] ++ #[rawInt pos.line, rawInt pos.col, .ref c'])) (o' := .tabF t H1.n) gx e3 tk' hN2 (Heap.ExtBut.refl _ _) htb ⟨c', _, ixn, hS, by simp⟩ (fun l e => by cases e)
                have hN3 : adr ((N.set tix (P, tabObj (#[] ++ #[rawInt pos.line, rawInt pos.col, .ref c'])) ++ [(c', oc)]).set tix (P, tabObj (#[] ++ #[rawInt pos.line, rawInt pos.col, .ref c']))) = adr N ++ [c'] := by
                  rw [adr_set hN2, adr, List.map_append]; show adr _ ++ _ = _; rw [adr_set hN]; rfl
                rw [← adr_set hN2 (ob' := tabObj (#[] ++ #[rawInt pos.line, rawInt pos.col, .ref c']))] at ixn
                generalize ((N.set tix (P, tabObj (#[] ++ #[rawInt pos.line, rawInt pos.col, .ref c'])) ++ [(c', oc)]).set tix (P, tabObj (#[] ++ #[rawInt pos.line, rawInt pos.col, .ref c']))) = N3 at R3 hN3 ixn
                have p3 : adr N <+: adr N3 := by rw [hN3]; exact pfx_snoc
                have R4 := R3.push (h' := h'.push (fnMade name (ql ++ name) params body scope clos doc ((G.mg "__name__").getD .none) c' ctv)) e4 tk' keeps_push (Nat.le_refl _) (Heap.get?_push_size _ rfl) ⟨_, c', clos, doc, _, ctv, hS, pfx_get pfx_snoc ixn, rfl, hcm.mono (p3.trans pfx_snoc)⟩
                exact store_ok ok hs ht R4 e5 ⟨_, adr_last R3, rfl⟩ fun m5 N5 s5 R5 p5 => K _ _ _ _ R5 ((p3.trans pfx_push).trans p5) rfl
              · cases h
            · cases h
          · cases h
        · cases h
      · cases h
    · rename_i t' j hx
      obtain ⟨a', ot, hN, aj, f', hj, hf', rfl⟩ := R.hp.at hx
      rw [adr_get hN] at hρ; cases hρ
      split at h
      · rename_i H1 hb e1
        split at h
        · rename_i σ₂ e2
          cases h
          have : t' = t := Nat.eq_of_beq_eq_true hb
          subst this
          rw [hS] at hf'; cases hf'
          have hm := R.nw _ (List.mem_append_left _ (adr_mem hN))
          have hbP : bm ≠ P := fun q => by
            have e := R.fr.keep _ _ b3
            rw [q, hm.1] at e; cases e; cases b4
          refine makeFunction_hit (mg := G.mg) (cv := .ref aj) hclos R.ev.g hgs hcode (hch.keeps R.fr.keep) hm.1 (by exact trivial) (by simp [codeAmong, rawInt]) ⟨bm, ob, b1, b2, hbG, hbP, R.fr.keep _ _ b3, b4, b5, b6⟩ fun ctv doc h' tk' hk hsz => ?_
          have R1 := R.push (h' := h'.push (fnMade name (ql ++ name) params body scope clos doc ((G.mg "__name__").getD .none) aj ctv)) e1 tk' (fun b o e => keeps_push _ _ (hk _ _ e)) hsz (Heap.get?_push_size _ rfl) ⟨_, aj, clos, doc, _, ctv, hS, pfx_get pfx_snoc hj, rfl, hcm.mono pfx_snoc⟩
          exact store_ok ok hs ht R1 e2 ⟨_, adr_last R, rfl⟩ fun m5 N5 s5 R5 p5 => K _ _ _ _ R5 (pfx_push.trans p5) rfl
        · cases h
      · cases h
    · cases h
  · cases h
end
end Mine
open PySem PySem.W PyProof.Rows PySem.Calls
set_option Elab.async false
set_option maxRecDepth 100000
namespace Mine
section
variable {G : Gl} {d : Nat} {sc : Scope}
/-! calls of global defs in expressions -/
theorem nameG {c : Cx} {ev : Env} {σ : St} {m : Str → Option Value} {N X : List (Addr × Obj)} {s : Shared} {x : Str} {pos : Pos} {v : Value} {Q E : Value → Shared → Prop} (ok : c.Ok G d) (hs : ev.scope = sc) (R : Rel G c ev σ m N X s)
    (e : nsIn G.K mainGlobals x = some (some v)) (hx : sc.names.lookup x = some .globalImplicit) (hd : (x == ("__debug__" : Str)) = false) (h : Q v s) :
    wpAny (model G.prog G.w) c.A (eval (.Name x pos) ev) Q E s :=
  Name_function_global R.ev.k (by unfold Env.kindOf; rw [hs]; exact hx)
    (loadGlobal_global (by rw [R.ev.g]; exact ok.T.g.keeps R.fr.keep) (mg_of ok.X ok.T.g e) h) hd
theorem Snd.gint {x : Str} {p : Pos} {z : Int} {t : Tok} (e : nsIn G.K mainGlobals x = some (some (.int z t))) (hx : sc.names.lookup x = some .globalImplicit) (hd : (x == ("__debug__" : Str)) = false) : Snd G d sc (.Name x p) (eInt z) := by
  intro c ev σ σ' v m N X s Q E ok hs R h K
  cases h
  exact nameG ok hs R e hx hd (K _ _ _ _ R pfx_rfl ⟨_, rfl⟩)
theorem fnAt_of {c : Cx} {ev : Env} {σ : St} {m : Str → Option Value} {N X : List (Addr × Obj)} {s : Shared} {f : Addr} {fo : Obj} (ok : c.Ok G d) (R : Rel G c ev σ m N X s) (h1 : G.K.lookup f = some fo) (h2 : ∃ fd, fo.data = .func fd) : FnAt f s.heap := by
  obtain ⟨fd, hd⟩ := h2
  obtain ⟨a, b, dt, sl⟩ := fo
  simp only at hd
  subst hd
  exact ⟨a, b, fd, sl, R.fr.keep _ _ (ok.X f _ h1)⟩
theorem Snd.callG {x : Str} {p pos : Pos} {args : List Expr} {a : Expr} {F : List VV → SE} {l : SL} (hF : CallF G d x F) (hl : SndL G d sc (a :: args) l)
    (hx : sc.names.lookup x = some .globalImplicit) (hd : (x == ("__debug__" : Str)) = false)
    (he : ∀ env, eval (.Call (.Name x p) (a :: args) [] pos) env = (do callWith pos (← eval (.Name x p) env) [] (backTo pos (starEach (a :: args) env)) (backToKw pos (keywordEach [] env))))
    (h1 : ∀ env, starEach (a :: args) env = (false, eval a env) :: starEach args env) (h2 : ∀ env, (backTo pos (starEach args env)).any (·.1) = false) : Snd G d sc (.Call (.Name x p) (a :: args) [] pos) (eCall F l) := by
  intro c ev σ σ' v m N X s Q E ok hs R h K
  obtain ⟨f, fo, q1, q2, q3, q4⟩ := hF
  obtain ⟨vs, σ₁, e1, e2⟩ := callD h
  refine Call_ (nameG ok hs R q1 hx hd (callWith_F (fnAt_of ok R q2 q3) ?_ (h1 ev) (h2 ev))) (he ev)
  exact hl c ev σ σ₁ vs m N X s pos _ E ok hs R e1 fun m1 N1 s1 xs R1 p1 v1 => ⟨fnAt_of ok R1 q2 q3, q4 c ev σ₁ σ' v vs m1 N1 X s1 xs Q E ok R1 v1 e2 fun m2 N2 s2 y R2 p2 v2 => K _ _ _ _ R2 (p1.trans p2) v2⟩

/-! calls of closures -/
def CloOk (G : Gl) (d : Nat) (t : Nat) (F : List (Nat × Nat) → List VV → SE) : Prop :=
  ∀ (c : Cx) (ev : Env) (σ σ' : St) (v : VV) (k j : Nat) (cl : List (Nat × Nat)) (vs : List VV) (m : Str → Option Value) (N X : List (Addr × Obj)) (s : Shared) (f : Addr) (xs : List Value) (Q : Value → Shared → Prop) (E : Value → Shared → Prop),
    c.Ok G d → Rel G c ev σ m N X s → σ.H.get k = some (.fn t j cl) → σ.H.get j = some (.code t) → (adr N)[k]? = some f → VRs c.q (adr N) vs xs → F cl vs σ = some (v, σ') → Kv G c ev σ' N X v Q → wpAny (model G.prog G.w) c.A (call (.ref f) xs) Q E s
theorem CloOk.zero {t : Nat} : CloOk G d t (fun _ _ _ => .none) := by
  intro c ev σ σ' v k j cl vs m N X s f xs Q E ok R h1 h2 h3 hv h K
  cases h
def gClo (ts : List Tk) (b : SS) : List (Nat × Nat) → List VV → SE := fun cl vs σ => match initP ts vs [] [] with
  | some (l, _) => match b ⟨σ.H, l, cl, .none⟩ with
    | some (fl, σ₁) => some (flV fl, { σ with H := σ₁.H })
    | .none => .none
  | .none => .none
theorem initP_len : ∀ {names : List Str} {ts : List Tk} {sc : Scope} {vs : List VV} {l c : List (Nat × VV)} {r : List (Nat × VV) × List (Nat × VV)}, Pars sc names ts → initP ts vs l c = some r → vs.length = names.length := by
  intro names ts sc vs l c r hp
  induction hp generalizing vs l c with
  | nil => intro h; cases vs with | nil => rfl | cons _ _ => cases h
  | cons h1 h2 ih =>
    rename_i t _
    intro h
    cases vs with
    | nil => cases t <;> cases h
    | cons v vs =>
      cases t with
      | loc i => simp only [initP] at h; split at h; exact congrArg (· + 1) (ih h); cases h
      | cel i => simp only [initP] at h; split at h; exact congrArg (· + 1) (ih h); cases h
theorem reverse_lookup {names : List Str} {ts : List Tk} {kindOf : Str → Option NameKind} (hl : ∀ y ∈ names, kindOf y = some .local) : ∀ (xs : List Value) (m : Str → Option Value) (y : Str), bindL kindOf (names.zip xs) m y = ((names.zip xs).reverse.lookup y).or (m y) := by
  induction names with
  | nil => intro xs m y; rfl
  | cons n names ih =>
    intro xs m y
    cases xs with
    | nil => rfl
    | cons x xs =>
      show bindL kindOf (names.zip xs) (if kindOf n = some .local then _ else m) y = _
      rw [if_pos (hl n (.head _)), ih (fun z hz => hl z (.tail _ hz))]
      rw [List.zip_cons_cons, List.reverse_cons, List.lookup_append]
      cases q : (names.zip xs).reverse.lookup y with
      | some z => simp
      | none =>
        simp only [Option.none_or, List.lookup_cons, List.lookup_nil]
        by_cases e : y = n
        · subst e; simp
        · have : (y == n) = false := by rw [beq_eq_false_iff_ne]; exact e
          rw [if_neg e, this]; rfl
theorem cloF {t : Nat} {sp : FnSpec} {names : List Str} {is : List Nat} {fb : SS} (hS : G.S t = some sp) (hp : Pars sp.scope names (is.map .loc))
    (hb : SndS G d sp.scope sp.body fb) (hcell : ∀ x ∈ sp.scope.names, x.2 ≠ .cell) (hco : sp.scope.isCoroutine = false) (hgen : sp.scope.isGenerator = false) (hk : sp.scope.kind = .function) (hcq : ∀ cd ql, ¬ G.cq sp.scope cd ql)
    (hbind : ∀ cl doc pm an cdv ct (xs : List Value), xs.length = names.length → bindArgs (fnX sp.name sp.qual sp.params sp.body sp.scope cl .none .none doc pm an cdv ct) ⟨xs, []⟩ = pure (names.zip xs)) : CloOk G (d + 1) t (gClo (is.map .loc) fb) := by
  intro c ev σ σ' v k j cl vs m N X s f xs Q E ok R hk1 hj1 hk2 hv h K
  unfold gClo at h
  split at h
  · rename_i l cv e1
    split at h
    · rename_i fl σ₁ e3
      cases h
      obtain ⟨a, ob, hN, f', aj, clos, doc, pm, ctv, q1, q2, rfl, q4⟩ := R.hp.at hk1
      rw [adr_get hN] at hk2; cases hk2
      rw [hS] at q1; cases q1
      obtain ⟨aj', oc, hNj, f'', cvs, tk0, q5, q6, q7⟩ := R.hp.at hj1
      rw [hS] at q5; cases q5
      rw [adr_get hNj] at q2; cases q2
      have hlen : xs.length = names.length := by have a1 := hv.length; have a2 := initP_len hp e1; omega
      have hl : ∀ y ∈ names.zip xs, sp.scope.names.lookup y.1 = some .local := fun y hy => by
        obtain ⟨t, ht, hT⟩ := pars_mem hp y hy
        obtain ⟨i, _, rfl⟩ := List.mem_map.mp ht
        exact hT.2
      refine wpAny_call (callX_plain (cl := clos) (binds := names.zip xs) ok.B R.fr R.nw ok.T.nolimit ok.fr ok.ff ok.fk (R.nw _ (List.mem_append_left _ (adr_mem hN))).1 rfl (codeRec_news R.nw (List.mem_append_left _ (adr_mem hNj)) q6 q7) (by have := ok.room; omega) (BindsTo.of_eq (hbind _ _ _ _ _ _ xs hlen)) hl ?_ hcell hco hgen hk)
      intro g L' h₁ FG F' N' B' st lt
      let c' : Cx := { A := c.A.deeper (envX sp.qual sp.scope L' f (.ref aj) clos), A₀ := c.A, base := c.base, h₀ := g, outer := c.fenv :: c.outer, L := L', fenv := envX sp.qual sp.scope L' f (.ref aj) clos, q := c.q, qv := c.qv, s₀ := c.s₀ }
      have ok' : c'.Ok G d := ⟨B', ok.X.keeps st, ok.T.keeps st, Around.frames_deeper B'.stack, rfl, hk, rfl, rfl, rfl, ok.hh, by have := ok.room; show c.A.depth + 1 + d < _; omega, by have := ok.units; show c.A.units + 3 + 8 * d + 64 < _; omega,
        let ⟨o, ho, r⟩ := ok.isl; ⟨o, st _ _ ho, r⟩, ok.isi, fun q hq => (ok.ch q hq).keeps st, (let ⟨o, ho⟩ := ok.sm; ⟨o, st _ _ ho⟩), fun cd ql hq => absurd hq (hcq cd ql)⟩
      have hnl : ∀ y ∈ names, (fun x => sp.scope.names.lookup x) y = some NameKind.local := by
        have : ∀ {names : List Str} {ts : List Tk}, Pars sp.scope names ts → (∀ t ∈ ts, ∃ i, t = .loc i) → ∀ y ∈ names, sp.scope.names.lookup y = some NameKind.local := by
          intro names ts hp
          induction hp with
          | nil => intro _ y hy; cases hy
          | cons h1 h2 ih =>
            intro ht y hy
            rcases List.mem_cons.mp hy with rfl | hy
            · obtain ⟨i, rfl⟩ := ht _ (.head _); exact h1.2
            · exact ih (fun t h => ht t (.tail _ h)) y hy
        exact this hp fun t ht => let ⟨i, _, e⟩ := List.mem_map.mp ht; ⟨i, e.symm⟩
      have lm := (initP_ok (q := c.q) (ρ := adr N) (kindOf := fun x => sp.scope.names.lookup x) (fun _ => rfl) hp e1 hv (LocMap.nil (m := fun _ => none)) (LocMap.nil (m := fun _ => none))).1
      have lm' : LocMap c.q (adr N) (fun y => (names.zip xs).reverse.lookup y) l := fun i u e => by
        obtain ⟨a1, x, a2, a3⟩ := lm i u e
        rw [reverse_lookup (ts := is.map .loc) hnl] at a2
        exact ⟨a1, x, by simpa using a2, a3⟩
      have R0 : Rel G c' c'.fenv ⟨σ.H, l, cl, .none⟩ (fun y => (names.zip xs).reverse.lookup y) N X { s with heap := h₁, toks := s.toks + (names.zip xs).length } :=
        ⟨F', N', R.nd, R.hp, R.tb, lm', ⟨rfl, rfl, hk, rfl, q4⟩, by have e := R.sh; rw [e]⟩
      refine hb c' _ _ _ _ _ X _ _ _ ok' rfl R0 e3 fun m3 N3 s3 y R3 p3 v3 => ?_
      refine leaveK_ R3.fr R3.nw fun FF NN => ?_
      refine K m N3 s3 _ ?_ p3 ?_
      · exact ⟨FF, NN, R3.nd, R3.hp, R3.tb, R.lo.mono p3, R.ev.mono p3 rfl rfl, by have e := R3.sh; exact e⟩
      · cases fl with
        | next => cases v3; exact rfl
        | ret u => obtain ⟨z, rfl, hz⟩ := v3; exact hz
    · cases h
  · cases h
def eClo (t : Nat) (F : List (Nat × Nat) → List VV → SE) (fn : SE) (l : SL) : SE := fun σ => match fn σ with
  | some (.ref k, σ₀) => match σ₀.H.get k with
    | some (.fn _ _ _) => match l σ₀ with
      | some (vs, σ₁) => match σ₁.H.get k with
        | some (.fn t' j cl) => match σ₁.H.get j with
          | some (.code t'') => match Nat.beq t' t, Nat.beq t'' t with
            | true, true => F cl vs σ₁
            | _, _ => .none
          | _ => .none
        | _ => .none
      | .none => .none
    | _ => .none
  | _ => .none
theorem fn_at {c : Cx} {ev : Env} {σ : St} {m : Str → Option Value} {N X : List (Addr × Obj)} {s : Shared} {k t j : Nat} {cl : List (Nat × Nat)} {a : Addr} (R : Rel G c ev σ m N X s) (h : σ.H.get k = some (.fn t j cl)) (ha : (adr N)[k]? = some a) : FnAt a s.heap := by
  obtain ⟨a', ob, hN, f', aj, clos, doc, pm, ctv, q1, q2, rfl, q4⟩ := R.hp.at h
  rw [adr_get hN] at ha; cases ha
  exact ⟨_, _, _, _, (R.nw _ (List.mem_append_left _ (adr_mem hN))).1⟩
theorem Snd.callC {fe : Expr} {pos : Pos} {args : List Expr} {a : Expr} {t : Nat} {F : List (Nat × Nat) → List VV → SE} {l : SL} {fn : SE} (hF : CloOk G d t F) (hf : Snd G d sc fe fn) (hl : SndL G d sc (a :: args) l)
    (he : ∀ env, eval (.Call fe (a :: args) [] pos) env = (do callWith pos (← eval fe env) [] (backTo pos (starEach (a :: args) env)) (backToKw pos (keywordEach [] env))))
    (h1 : ∀ env, starEach (a :: args) env = (false, eval a env) :: starEach args env) (h2 : ∀ env, (backTo pos (starEach args env)).any (·.1) = false) : Snd G d sc (.Call fe (a :: args) [] pos) (eClo t F fn l) := by
  intro c ev σ σ' v m N X s Q E ok hs R h K
  unfold eClo at h
  split at h
  · rename_i k σ₀ e0
    split at h
    · rename_i t0 j0 cl0 g0
      split at h
      · rename_i vs σ₁ e1
        split at h
        · rename_i t' j cl g1
          split at h
          · rename_i t'' g2
            split at h
            · rename_i b1 b2
              have : t' = t := Nat.eq_of_beq_eq_true b1
              subst this
              have : t'' = t' := Nat.eq_of_beq_eq_true b2
              subst this
              refine Call_ (hf c ev σ _ _ m N X s _ E ok hs R e0 fun m0 N0 s0 x R0 p0 v0 => ?_) (he ev)
              obtain ⟨af, ha, rfl⟩ := v0
              refine callWith_F (fn_at R0 g0 ha) ?_ (h1 ev) (h2 ev)
              exact hl c ev σ₀ σ₁ vs m0 N0 X s0 pos _ E ok hs R0 e1 fun m1 N1 s1 xs R1 p1 v1 => ⟨fn_at R1 g1 (pfx_get p1 ha), hF c ev σ₁ σ' v k j cl vs m1 N1 X s1 af xs Q E ok R1 g1 g2 (pfx_get p1 ha) v1 h fun m2 N2 s2 y R2 p2 v2 => K _ _ _ _ R2 (p0.trans (p1.trans p2)) v2⟩
            · cases h
          · cases h
        · cases h
      · cases h
    · cases h
  · cases h
end
end Mine
open PySem PySem.W PyProof.Rows PySem.Calls
set_option Elab.async false
set_option maxRecDepth 100000
namespace Mine
section
variable {G : Gl} {d : Nat} {sc : Scope}
/-! a loop over the items of an empty dict -/
def sNoItems (f : SE) : SS := fun σ => match f σ with
  | some (.ref k, σ₁) => match σ₁.H.get k with
    | some .dict0 => some (.next, σ₁)
    | _ => .none
  | _ => .none
theorem SndX.noItems {tgt o : Expr} {x : Str} {apos cpos pos : Pos} {body : List Stmt} {f : SE} (ho : Snd G d sc o f) (hx : x = "items") (he : MethodIs o x [] apos cpos) (hf : ∀ env v, foldedSetIterable (.Call (.Attribute o x apos) [] [] cpos) env v = pure v) :
    SndX G d sc (.For tgt (.Call (.Attribute o x apos) [] [] cpos) body [] pos) (sNoItems f) := by
  subst hx
  intro c σ σ' fl m N X s Q E ok hs R h K
  unfold sNoItems at h
  split at h
  · rename_i k σ₁ e1
    split at h
    · rename_i g1
      cases h
      obtain ⟨pl, he'⟩ := he c.fenv
      refine wpAny_For (MethodCall_ (ho c c.fenv σ _ _ m N X s _ E ok hs R e1 fun m1 N1 s1 y R1 p1 v1 => ?_) he') (hf _)
      obtain ⟨a, ha, rfl⟩ := v1
      obtain ⟨a', ob, hN, n, rfl⟩ := R1.hp.at g1
      rw [adr_get hN] at ha; cases ha
      have hm := R1.nw _ (List.mem_append_left _ (adr_mem hN))
      have lo : (a == sysModules) = false := by
        rw [beq_eq_false_iff_ne]
        intro q
        obtain ⟨o, ho⟩ := ok.sm
        rw [← q, hm.2.2] at ho; cases ho
      have hD : Heap.DictOf (PySem.strKind G.prog G.w) s1.heap a [] := ⟨_, #[], n, hm.1, ⟨rfl, rfl, rfl⟩, rfl, (fun e he => by simp at he), .nil, .nil⟩
      refine getMethod_builtin (s := s1) ⟨_, hm.1, rfl⟩ PySem.F.plainAttrs_dict PySem.F.slot_dict_items PySem.F.type_dict_items (fun b e => by cases e; exact ⟨_, hm.1, rfl⟩) (callWith_method0 ?_)
      refine call_meetsIn PySem.F.slot_dict_items ⟨_, hm.1, rfl⟩ PySem.F.entry_dict_items (PySem.F.args_dict_items_1 _) (meets_dict_items (PySem.strKind G.prog G.w) a lo) ⟨⟨[], hD⟩, ?_⟩
      have hA : Heap.DictAt (PySem.strKind G.prog G.w) (s1.heap.push { cls := .type "dict_items", data := .fields #[.ref a] }) a [] n := ⟨_, #[], keeps_push _ _ hm.1, ⟨rfl, rfl, rfl⟩, rfl, (fun e he => by simp at he), .nil, .nil⟩
      refine wpAny_pyIter_items (knd := PySem.strKind G.prog G.w) (kvs := []) (ep := n) (s := { s1 with heap := s1.heap.push { cls := .type "dict_items", data := .fields #[.ref a] } }) ⟨_, Heap.get?_push_size _ rfl, rfl, rfl⟩ hA ?_
      let h2 := (s1.heap.push { cls := .type "dict_items", data := .fields #[.ref a] })
      let h3 := h2.push { cls := .type "dict_itemiterator", data := .fields #[.none, .bool false, .ref a, .int 0 0, .int (0 : Nat) 0, .int n 0, .none, .none] }
      have hit : h3.get? h2.objs.size = some { cls := .type "dict_itemiterator", data := .fields #[.none, .bool false, .ref a, .int 0 0, .int (0 : Nat) 0, .int n 0, .none, .none] } := Heap.get?_push_size _ rfl
      have R2 := R1.xpush (h' := h3) (a := h2.objs.size) s1.toks (fun b x e => keeps_push _ _ (keeps_push _ _ e)) (by show _ ≤ (s1.heap.push _).objs.size; rw [Heap.size_push]; exact Nat.le_add_right _ _) hit
      refine codeAny_forLoop_any (fun k s' => s' = { s1 with heap := h3 }) ?_ 0 rfl
      rintro k s' rfl
      refine wpAny_pyNext_items_end (knd := PySem.strKind G.prog G.w) (kvs := []) (ep := n) (i := 0) ok.hh hit ?_ rfl fun h' hx => ?_
      · exact ⟨_, #[], keeps_push _ _ (keeps_push _ _ hm.1), ⟨rfl, rfl, rfl⟩, rfl, (fun e he => by simp at he), .nil, .nil⟩
      · exact wpAny_execs_nil (K _ _ _ _ (R2.xend (fenv_ne ok R2) s1.toks hx) p1 rfl)
    · cases h
  · cases h

/-! a part of a tuple -/
theorem adjust_ab (a b n : Nat) (ha : a ≤ n) (hb : b ≤ n) : Builtin.Slice.sliceAdjust (some (a : Int)) (some (b : Int)) 1 (n : Int) = ((a : Int), (b : Int)) := by
  unfold Builtin.Slice.sliceAdjust
  have h1 : ¬ ((1 : Int) < 0) := by omega
  have h2 : ¬ ((a : Int) < 0) := by omega
  have h3 : ¬ ((b : Int) < 0) := by omega
  simp only [h1, h2, h3, if_false]
  congr 1 <;> omega
theorem places_ab (a b : Nat) (hab : a ≤ b) : Builtin.Slice.slicePlaces (a : Int) (b : Int) 1 = b - a := by
  unfold Builtin.Slice.slicePlaces
  have h1 : (1 : Int) > 0 := by omega
  simp only [h1, if_true, Int.ediv_one]
  split <;> omega
theorem sliceApplied_ab {prog : Program} {w : World} {A : Around} {E : Value → Shared → Prop} {s : Shared} {sl : Addr} {a b n : Nat} {u u' : Tok} {Q : Int × Int × Nat → Shared → Prop} (hs : s.heap.IsSliceOf sl (.int a u) (.int b u') .none) (ha : a ≤ b) (hb : b ≤ n) (h : Q ((a : Int), 1, b - a) s) :
    wpAny (model prog w) A (Builtin.Slice.sliceApplied (.ref sl) (pure (n : Int))) Q E s := by
  obtain ⟨os, hos, hcs, hds⟩ := id hs
  unfold Builtin.Slice.sliceApplied Builtin.Slice.sliceFields
  refine wpAny_bind (wpAny_bind (wpAny_field hos hds (x := .int a u) rfl (wpAny_bind (wpAny_field hos hds (x := .int b u') rfl (wpAny_bind (wpAny_field hos hds (x := .none) rfl (wpAny_pure ?_)))))))
  refine wpAny_bind (slicePart_none ?_)
  show wpAny _ _ (if ((1 : Int) == 0) = true then _ else _) _ _ s
  rw [if_neg (by decide)]
  refine wpAny_bind (slicePart_int (wpAny_bind (slicePart_int (wpAny_bind (wpAny_pure ?_)))))
  show wpAny _ _ (match Builtin.Slice.sliceAdjust (some (a : Int)) (some (b : Int)) 1 (n : Int) with | (lo, hi) => pure (lo, (1 : Int), Builtin.Slice.slicePlaces lo hi 1)) _ _ s
  rw [adjust_ab a b n (by omega) hb]
  show wpAny _ _ (pure ((a : Int), (1 : Int), Builtin.Slice.slicePlaces (a : Int) (b : Int) 1)) _ _ s
  rw [places_ab a b ha]
  exact wpAny_pure h
theorem pick_ab (xs : Array Value) (a b : Nat) : ((List.range (b - a)).filterMap fun (k : Nat) => xs[((a : Int) + (k : Int) * 1).toNat]?).toArray = ((xs.toList.drop a).take (b - a)).toArray := by
  have e : (fun (k : Nat) => xs[((a : Int) + (k : Int) * 1).toNat]?) = fun k => xs[a + k]? := by
    funext k
    have : ((a : Int) + (k : Int) * 1).toNat = a + k := by omega
    rw [this]
  rw [e]
  have := pick_run xs a (b - a)
  rw [List.filterMap_map] at this
  have e2 : ((fun x => xs[x]?) ∘ fun x => a + x) = fun k => xs[a + k]? := rfl
  rw [e2] at this
  rw [this]
theorem getItem_tuple_ab {prog : Program} {w : World} {A : Around} {E : Value → Shared → Prop} {s : Shared} {t sl : Addr} {items : Array Value} {a b : Nat} {u u' : Tok} {Q : Value → Shared → Prop} (ht : IsTup s.heap t items) (hs : s.heap.IsSliceOf sl (.int a u) (.int b u') .none) (h1 : 1 ≤ a) (ha : a ≤ b) (hb : b ≤ items.size)
    (h : Q (.ref s.heap.objs.size) { s with heap := s.heap.push { cls := .type "tuple", data := .seq ((items.toList.drop a).take (b - a)).toArray } })
    (hsz : items.size ≤ sizeLine) : wpAny (model prog w) A (getItem (.ref t) (.ref sl)) Q E s := by
  have hdrop : sizeOk (.seq ((items.toList.drop a).take (b - a)).toArray) := by
    show ((items.toList.drop a).take (b - a)).toArray.size ≤ sizeLine
    rw [List.size_toArray, List.length_take, List.length_drop, Array.length_toList]
    omega
  obtain ⟨os, hos, hcs, hds⟩ := id hs
  have hTs : s.TypeIs (.ref sl) "slice" := ⟨os, hos, hcs⟩
  unfold getItem
  try with_reducible refine wpAny_holding ?_
  first | refine wpAny_bind (wpAny_pure ?_) | skip
  refine wpAny_bind (wpAny_sequenceKey ht.typeIs (by decide) ?_)
  refine wpAny_bind (wpAny_callSpecial?_slot (name := Str.ofString "__getitem__") ht.typeIs slot_tuple_getitem
    (wpAny_call_entry slot_tuple_getitem ht.typeIs entry_tuple_getitem ?_ (args_tuple_getitem _ _)))
  show wpAny _ _ (Builtin.Tuple.tupleItemsOf (.ref t) >>= _) _ _ s
  refine wpAny_bind (tupleItemsOf_ ht ?_)
  refine wpAny_bind (wpAny_typeOf hTs ?_)
  rw [if_pos (by decide)]
  refine wpAny_bind (sliceApplied_ab hs ha hb ?_)
  have hno : ¬ (((a : Int) == 0 && (1 : Int) == 1 && (b - a) == items.size) = true) := by
    have : ((a : Int) == 0) = false := by rw [beq_eq_false_iff_ne]; omega
    rw [this]; simp
  show wpAny _ _ (if ((a : Int) == 0 && (1 : Int) == 1 && (b - a) == items.size) = true then _ else _) _ _ s
  rw [if_neg hno, pick_ab items a b]
  first
    | exact wpAny_bind (m := Builtin.Tuple.tupleExact _) (wpAny_newObj_type (wpAny_pure ⟨_, rfl, wpAny_pure h⟩) hdrop)
    | exact wpAny_bind (m := Builtin.Tuple.tupleExact _) (wpAny_newObj_type (wpAny_bind (wpAny_pure (wpAny_pure ⟨_, rfl, wpAny_pure h⟩))) hdrop)
    | exact wpAny_bind (wpAny_bind (m := Builtin.Tuple.tupleExact _) (wpAny_newObj_type (wpAny_pure (wpAny_pure ⟨_, rfl, wpAny_pure h⟩)) hdrop))
    | exact wpAny_bind (wpAny_bind (m := Builtin.Tuple.tupleExact _) (wpAny_newObj_type (wpAny_pure ⟨_, rfl, wpAny_pure h⟩) hdrop))
def eTupSlc (a b : Nat) (f : SE) : SE := fun σ => match f σ with
  | some (.ref k, σ₁) => match σ₁.H.get k with
    | some (.tup xs) => match Nat.blt xs.length 100000, Nat.ble b xs.length with
      | true, true => newO (.tup ((xs.drop a).take (b - a))) σ₁
      | _, _ => .none
    | _ => .none
  | _ => .none
theorem Snd.tupSlc {e : Expr} {a b k k' : Nat} {p1 p2 p pos : Pos} {f : SE} (he : Snd G d sc e f) (h1 : 1 ≤ a) (hab : a ≤ b)
    (hsub : ∀ x y : Addr, ∃ ops, subscripted (.Slice (some (.Constant (.int a) k p1)) (some (.Constant (.int b) k' p2)) .none p) false (.ref x) (.ref y) = operate ops (getItem (.ref x) (.ref y))) : Snd G d sc (.Subscript e (.Slice (some (.Constant (.int a) k p1)) (some (.Constant (.int b) k' p2)) .none p) pos) (eTupSlc a b f) := by
  intro c ev σ σ' v m N X s Q E ok hs R hf K
  unfold eTupSlc at hf
  split at hf
  · rename_i i σ₁ e1
    split at hf
    · rename_i xs hx
      split at hf
      · rename_i hb1 hb2
        refine Subscript_ (he c ev σ _ _ m N X s _ E ok hs R e1 fun m1 N1 s1 x R1 p1 v1 => wpAny_Slice ?_)
        rw [evalPart_some]
        refine wpAny_Constant_int ?_
        rw [evalPart_some]
        refine wpAny_Constant_int ?_
        rw [evalPart_none]
        refine wpAny_pure ?_
        obtain ⟨t, ws, rfl, hl, hr⟩ := tup_at R1 hx v1
        obtain ⟨ops, hops⟩ := hsub t s1.heap.objs.size
        have hl2 : ∀ o, IsTup (s1.heap.push o) t ws.toArray := fun o => by
          obtain ⟨ot, g1, g2⟩ := hl
          exact ⟨ot, keeps_push _ _ g1, g2⟩
        have hb := Nat.le_of_ble_eq_true hb2
        refine tail_any (s := { s1 with heap := s1.heap.push { cls := .type "slice", data := .fields #[.int a s1.toks, .int b (s1.toks + 1), .none] }, toks := s1.toks + 1 + 1 }) (hl2 _).typeIs slot_tuple_getitem.lookup
          (getItem_tuple_ab (hl2 _) (Heap.IsSliceOf.new ..) h1 hab (by rw [List.size_toArray, ← hr.length]; exact hb) ?_ (by rw [List.size_toArray, ← hr.length]; exact small_line hb1)) hops
        refine new_at (s := s1) (tk := s1.toks + 1 + 1) (a := (s1.heap.push { cls := .type "slice", data := .fields #[.int a s1.toks, .int b (s1.toks + 1), .none] }).objs.size) R1 hf (fun b x e => keeps_push _ _ (keeps_push _ _ e)) (by rw [Heap.size_push]; exact Nat.le_add_right _ _) (Heap.get?_push_size _ rfl) ⟨_, 0, rfl, ((hr.drop a).take (b - a)).mono pfx_snoc⟩
          fun m5 N5 s5 y R5 p5 v5 => K _ _ _ _ R5 (p1.trans p5) v5
      · cases hf
    · cases hf
  · cases hf

/-! the script -/
/-- «script» itself -/
theorem scr_sum {c : Cx} {ev : Env} {σ : St} {m : Str → Option Value} {N X : List (Addr × Obj)} {s : Shared} {Q E : Value → Shared → Prop} (ok : c.Ok G d) (R : Rel G c ev σ m N X s) (h : ∀ s' t, Rel G c ev σ m N X s' → Q (.int (sumZ G.ns) t) s') :
    wpAny (model G.prog G.w) c.A (call (.builtin "sum") [.ref c.q]) Q E s := by
  have hl : s.heap.IsList c.q c.qv.toArray := by
    obtain ⟨o, ho, r⟩ := ok.isl
    exact ⟨o, R.fr.keep _ _ ho, r⟩
  obtain ⟨ys', hx⟩ := ok.isi.allInts.items
  have hl' := hl
  rw [hx] at hl'
  have hn : numsOf c.qv.toArray.toList = G.ns := by rw [show c.qv.toArray.toList = c.qv from rfl, ok.isi.numsOf]
  rw [hx, nums_intItems] at hn
  refine sum_intListG ok.hh hl' fun h' tk t' hk => ?_
  have := h _ t' (R.keeps tk hk)
  rw [sumZ_eq, ← hn] at this
  rw [preSum_eq, List.take_of_length_le (by simp)]
  exact this
/-- «sum(script) % k» -/
def eSumMod (r : Int) (f : SE) : SE := fun σ => match eLoc 0 σ with
  | some (.scr, σ₁) => match f σ₁ with
    | some (.int _, σ₂) => some (.int r, σ₂)
    | _ => .none
  | _ => .none
theorem Snd.sumMod {x : Str} {p pos pos' : Pos} {e : Expr} {k : Int} {kk : Nat} {pk : Pos} {r : Int} (he : Snd G d sc e (eLoc 0)) (hr : (sumZ G.ns).fmod k = r) (hk0 : k ≠ 0) (hb : nsIn G.K mainGlobals x = some .none) (hx : x = "sum") (hk : sc.names.lookup x = some .globalImplicit)
    (hc : ∀ env, eval (.Call (.Name x p) [e] [] pos) env = (do callWith pos (← eval (.Name x p) env) [] (backTo pos (starEach [e] env)) (backToKw pos (keywordEach [] env))))
    (h1 : ∀ env, starEach [e] env = (false, eval e env) :: starEach [] env) : Snd G d sc (.BinOp (.Call (.Name x p) [e] [] pos) .Mod (.Constant (.int k) kk pk) pos') (eSumMod r (eInt k)) := by
  subst hx
  intro c ev σ σ' v m N X s Q E ok hs R h K
  unfold eSumMod at h
  split at h
  · rename_i σ₁ e1
    split at h
    · rename_i z σ₂ e2
      cases e2
      cases h
      refine wpAny_BinOp (Call_ (nameB ok hs R hb PyProof.Rows.boot_sum (by decide) hk (by decide) (callWith_builtin1 ?_ (h1 ev) rfl)) (hc ev))
      refine wpAny_items_cons (he c ev σ _ _ m N X s _ E ok hs R e1 fun m1 N1 s1 y R1 p1 v1 => wpAny_items_nil ?_) (h1 ev)
      cases v1
      refine scr_sum ok R1 fun s2 t R2 => wpAny_Constant_int ?_
      exact mod_int' hk0 (K _ _ _ _ (R2.tok _) p1 ⟨_, by rw [hr]⟩)
    · cases h
  · cases h
end
end Mine
open PySem PySem.W PyProof.Rows PySem.Calls
set_option Elab.async false
set_option maxRecDepth 100000
namespace Mine
section
variable {G : Gl} {c : Cx} {ev : Env} {σ σ' : St} {m : Str → Option Value} {N X : List (Addr × Obj)} {s : Shared}
theorem Rel.xperm {X' : List (Addr × Obj)} (R : Rel G c ev σ m N X s) (h : X.Perm X') : Rel G c ev σ m N X' s := by
  refine ⟨R.fr, fun p hp => R.nw p ?_, ?_, R.hp, R.tb, R.lo, R.ev.more fun o ho => h.mem_iff.mp ho, R.sh⟩
  · rcases List.mem_append.mp hp with hp | hp
    · exact List.mem_append_left _ hp
    · exact List.mem_append_right _ (h.mem_iff.mpr hp)
  · exact ((List.Perm.append_left _ (h.map _)).nodup_iff).mp R.nd
theorem Rel.nset {o o' : Obj} (R : Rel G c ev σ m N ((ev.locals, o) :: X) s) {h' : Heap} (t : Nat) {l : List (Nat × VV)} {mm : Str → Option Value} (hs : Heap.SameBut ev.locals s.heap h') (hg : h'.get? ev.locals = some o') (hn : LCg.NsObj o' mm) (lm : LocMap c.q (adr N) mm l) :
    Rel G c ev { σ with nsi := some l } m N ((ev.locals, o') :: X) { s with heap := h', toks := t } := by
  have hm := R.nw (ev.locals, o) (List.mem_append_right _ (.head _))
  refine ⟨R.fr.change hs hm.2.1 hm.2.2, fun p hp => ?_, R.nd, R.hp, R.tb, R.lo, ⟨R.ev.g, R.ev.b, R.ev.k, ⟨o', mm, .head _, hn, lm⟩, R.ev.cs⟩, by have e := R.sh; rw [e]⟩
  have old : ∀ p ∈ N ++ X, h'.get? p.1 = some p.2 ∧ p.1 ≠ c.L ∧ c.h₀.get? p.1 = none := fun p hp => by
    have q := R.nw p (by rcases List.mem_append.mp hp with h | h; exact List.mem_append_left _ h; exact List.mem_append_right _ (.tail _ h))
    exact ⟨(hs.2 p.1 (R.xne p hp)).trans q.1, q.2⟩
  rcases List.mem_append.mp hp with hp | hp
  · exact old p (List.mem_append_left _ hp)
  · rcases List.mem_cons.mp hp with rfl | hp
    · exact ⟨hg, hm.2⟩
    · exact old p (List.mem_append_right _ hp)
end
/-- the names' kinds of a comprehension within a frame of this scope -/
def relS (scope sc : Scope) : Scope := relabel scope { scope := sc, locals := 0, globals := 0, cells := [], qual := "", func := none, code := .none, frame := none, builtins := 0 }
theorem relS_is (scope : Scope) (env : Env) : relabel scope env = relS scope env.scope := rfl
section
variable {G : Gl} {d : Nat} {sc : Scope}
def ownCells : Tk → Nat → List (Str × Addr) → List (Str × Addr)
  | .loc _, _, acc => acc
  | .cel i, n, acc => (nm i, n) :: acc
def ownHeap : Tk → Heap → Heap
  | .loc _, h => h
  | .cel _, h => h.push { cls := .type "cell", data := .cell none }
def setC : Tk → VV → St → Option St
  | .loc i, v, σ => match σ.nsi with
    | some l => match Nat.blt i 57 with
      | true => some { σ with nsi := some (ins l i v) }
      | false => .none
    | .none => .none
  | .cel i, v, σ => match lk σ.cs i with
    | some k => match σ.H.get k with
      | some (.cell _) => match σ.H.put k (.cell v) with
        | some H' => some { σ with H := H' }
        | .none => .none
      | some .cellE => match σ.H.put k (.cell v) with
        | some H' => some { σ with H := H' }
        | .none => .none
      | _ => .none
    | .none => .none
def ownPush : Tk → List (Nat × Nat) → VH → Option (VH × List (Nat × Nat))
  | .loc _, cl, H => some (H, cl)
  | .cel i, cl, H => match H.push .cellE with
    | some H' => some (H', (i, H.n) :: cl)
    | .none => .none
def compL (tk : Tk) (ts : Option SB) (fe : SE) (kd : Nat) : Nat → It → St → Option St
  | 0, _, _ => .none
  | n + 1, I, σ => match itNext σ.H I with
    | some .none => some σ
    | some (some (v, I')) => match setC tk v σ with
      | some σ₁ => match (match ts with | .none => some (true, σ₁) | some t => t σ₁) with
        | some (true, σ₂) => match fe σ₂ with
          | some (u, σ₃) => match σ₃.H.get kd with
            | some (.list xs) => match Nat.blt xs.length 100000, putO kd (.list (xs ++ [u])) σ₃ with
              | true, some (_, σ₄) => compL tk ts fe kd n I' σ₄
              | _, _ => .none
            | _ => .none
          | .none => .none
        | some (false, σ₂) => compL tk ts fe kd n I' σ₂
        | .none => .none
      | .none => .none
    | .none => .none
def eComp (fi : SI) (fr : List Nat) (tk : Tk) (ts : Option SB) (fe : SE) (n : Nat) : SE := fun σ => match closM fr σ.cs [] with
  | some cl => match fi σ with
    | some (I, σ₁) => match σ₁.H.push (.list []) with
      | some H₁ => match ownPush tk cl H₁ with
        | some (H₂, cs') => match compL tk ts fe σ₁.H.n n I ⟨H₂, σ₁.loc, cs', some []⟩ with
          | some σ₃ => some (.ref σ₁.H.n, { σ₃ with cs := σ₁.cs, nsi := σ₁.nsi })
          | .none => .none
        | .none => .none
      | .none => .none
    | .none => .none
  | .none => .none
/-- a store in a comprehension's own frame -/
theorem storeC_ok {c : Cx} {ev : Env} {σ σ' : St} {v : VV} {m : Str → Option Value} {N X : List (Addr × Obj)} {s : Shared} {x : Str} {y : Value} {t : Tk} {oC : Obj} {Q : Unit → Shared → Prop} {E : Value → Shared → Prop} (hs : ev.scope = sc) (ht : TkOk sc x t)
    (R : Rel G c ev σ m N ((ev.locals, oC) :: X) s) (h : setC t v σ = some σ') (hv : VR c.q (adr N) v y)
    (K : ∀ N' s' oC', Rel G c ev σ' m N' ((ev.locals, oC') :: X) s' → adr N <+: adr N' → Q () s') : wpAny (model G.prog G.w) c.A (storeName ev x y) Q E s := by
  have hp : (ev.scope.kind == .class || (ev.scope.kind == .module && ev.locals != ev.globals)) = false := by rw [R.ev.k]; rfl
  cases t with
  | loc i =>
    obtain ⟨rfl, hk⟩ := ht
    have hk' : ev.kindOf (nm i) = some .local := by unfold Env.kindOf; rw [hs]; exact hk
    simp only [setC] at h
    split at h
    · rename_i l hn
      split at h
      · rename_i hi
        cases h
        have e := R.ev.l
        rw [hn] at e
        obtain ⟨o, mm, a1, a2, a3⟩ := e
        have g1 := (R.nw _ (List.mem_append_right _ a1)).1
        refine wpAny_storeName_local hk' (a2.ns g1) (fun h' hn' hs' => ?_) hp
        obtain ⟨o', g2, n2⟩ := LCg.ns_obj hn'
        exact K N _ o' (R.nset (s.toks + 1) hs' g2 n2 (a3.ins (bltN hi) hv)) pfx_rfl
      · cases h
    · cases h
  | cel i =>
    obtain ⟨rfl, hk⟩ := ht
    have hk' : ev.kindOf (nm i) = some .cell := by unfold Env.kindOf; rw [hs]; exact hk
    simp only [setC] at h
    split at h
    · rename_i k hc
      obtain ⟨a, h1, h2⟩ := R.ev.cs i k hc
      have key : ∀ o H', (∃ ob x0, N[k]? = some (a, ob) ∧ ob.data = .cell x0) → σ.H.get k = some o → (∀ l, o ≠ .ns l) → σ.H.put k (.cell v) = some H' → σ' = { σ with H := H' } → wpAny (model G.prog G.w) c.A (storeName ev (nm i) y) Q E s := by
        rintro o H' ⟨ob, x0, hN, hd⟩ ho hno hp' rfl
        refine wpAny_storeName_cell R.ev.k hk' h1 ⟨ob, (R.news _ (adr_mem hN)).1, hd⟩ fun h' hc' hs' => ?_
        obtain ⟨o', g1, g2⟩ := hc'
        refine K _ _ oC (R.put ho hp' s.toks hN hs' g1 ⟨y, g2, hv⟩ (fun l e => absurd e (hno l))) ?_
        rw [adr_set hN]; exact pfx_rfl
      split at h
      · rename_i u hu
        split at h
        · rename_i H' hH
          cases h
          obtain ⟨a', ob, hN, x, hd, hr⟩ := R.hp.at hu
          rw [adr_get hN] at h2; cases h2
          exact key _ _ ⟨ob, _, hN, hd⟩ hu (fun l e => by cases e) hH rfl
        · cases h
      · rename_i hu
        split at h
        · rename_i H' hH
          cases h
          obtain ⟨a', ob, hN, x, hd⟩ := R.hp.at hu
          rw [adr_get hN] at h2; cases h2
          exact key _ _ ⟨ob, _, hN, hd⟩ hu (fun l e => by cases e) hH rfl
        · cases h
      · cases h
    · cases h
/-- the one test, or none -/
inductive TsOk (G : Gl) (d : Nat) (sc : Scope) : List Expr → Option SB → Prop
  | none : TsOk G d sc [] .none
  | one {e : Expr} {t : SB} : SndT G d sc e t → TsOk G d sc [e] (some t)
theorem self_iter {c : Cx} {ev : Env} {σ : St} {m : Str → Option Value} {N X : List (Addr × Obj)} {s : Shared} {it : Addr} {o : Obj} {I : It} {Q : Value → Shared → Prop} {E : Value → Shared → Prop} (R : Rel G c ev σ m N X s) (hm : (it, o) ∈ X) (hI : ItR (adr N) I o) (h : Q (.ref it) s) :
    wpAny (model G.prog G.w) c.A (pyIter (.ref it)) Q E s := by
  have g := (R.nw _ (List.mem_append_right _ hm)).1
  cases I with
  | lst k i => obtain ⟨a, e1, e2, e3⟩ := hI; exact wpAny_pyIter_listiter ⟨o, g, e2, e3⟩ h
  | rng x n => cases hI; exact wpAny_pyIter_rangeiter g h
  | rev k n => obtain ⟨a, e1, e2, e3⟩ := hI; exact wpAny_pyIter_revIter ⟨o, g, e2, e3⟩ h
theorem it_ne {c : Cx} {ev : Env} {σ : St} {m : Str → Option Value} {N X : List (Addr × Obj)} {s : Shared} {it : Addr} {o : Obj} {I : It} (ok : c.Ok G d) (R : Rel G c ev σ m N ((it, o) :: X) s) (hI : ItR (adr N) I o) : ev.locals ≠ it := by
  intro q
  have l := R.ev.l
  have hm := R.nw (it, o) (List.mem_append_right _ (.head _))
  revert l
  cases σ.nsi with
  | none => intro l; exact hm.2.1 (q.symm.trans (by rw [l, ok.fl]))
  | some l =>
    rintro ⟨o', mm, a1, ⟨es, ep, hd, _⟩, _⟩
    have g := (R.nw _ (List.mem_append_right _ a1)).1
    have g2 : s.heap.get? ev.locals = some o := by rw [q]; exact hm.1
    rw [g] at g2
    cases g2
    cases I with
    | lst k i => obtain ⟨a, e1, e2, e3⟩ := hI; rw [hd] at e3; cases e3
    | rng x n => cases hI; cases hd
    | rev k n => obtain ⟨a, e1, e2, e3⟩ := hI; rw [hd] at e3; cases e3
theorem comp_core {c : Cx} {ev : Env} {σ σ' : St} {v : VV} {m : Str → Option Value} {N X : List (Addr × Obj)} {s : Shared} {elt iter : Expr} {x : Str} {px : Pos} {ifs : List Expr} {scope : Scope} {pos : Pos} {fi : SI} {fr : List Nat} {tk : Tk} {ts : Option SB} {fe : SE} {n : Nat} {clos : List (Str × Addr)} {cl : List (Nat × Nat)}
    {RR : Value → Addr → Result → Shared → Prop} {E : Value → Shared → Prop} (ok : c.Ok G d) (hs : ev.scope = sc) (R : Rel G c ev σ m N X s) (h : eComp fi fr tk ts fe n σ = some (v, σ')) (hcl : closM fr σ.cs [] = some cl) (hcm : CsMap (adr N) clos cl)
    (hi : SndI G d sc iter fi) (ht : TkOk (relS scope sc) x tk) (hts : TsOk G d (relS scope sc) ifs ts) (he : Snd G d (relS scope sc) elt fe) (hk : scope.kind = .function) (hb57 : ∀ i, tk = .cel i → i < 57)
    (hcf : ∀ n acc, cellsFrom n scope.names acc = ownCells tk n acc) (hpc : ∀ hh : Heap, PySem.pushCells hh scope.names = ownHeap tk hh)
    (hRR : ∀ m3 N3 s' D C oC, Rel G c ev σ' m3 N3 ((C, oC) :: X) s' → ev.locals ≠ C → (∃ mm, LCg.NsObj oC mm) → adr N <+: adr N3 → VR c.q (adr N3) v (.ref D) → RR (.ref D) C (.ok .next) s') :
    wpAny (model G.prog G.w) c.A (eval iter ev) (fun xv s₁ => wpAny (model G.prog G.w) c.A (pyIter xv) (fun it s₂ => wpAny (model G.prog G.w) c.A (newList []) (fun acc s₃ =>
      wpAny (model G.prog G.w) c.A (newFunctionEnv scope ev.globals clos [] ev.qual none .none (some ev)) (fun cenv s₄ =>
        codeAny (model G.prog G.w) c.A (.compStart (.ListComp elt [⟨.Name x px, iter, ifs, 0⟩] scope pos) 0 it acc { cenv with scope := relabel scope ev }) (RR acc cenv.locals) s₄) E s₃) E s₂) E s₁) E s := by
  unfold eComp at h
  rw [hcl] at h
  dsimp only at h
  split at h
  · rename_i I σ₁ e1
    split at h
    · rename_i H₁ e2
      split at h
      · rename_i H₂ cs' e3
        split at h
        · rename_i σ₃ e4
          cases h
          refine hi c ev σ σ₁ I m N X s _ E ok hs R e1 fun m1 N1 s1 it oI R1 p1 i1 => ?_
          refine wpAny_newObj_type ?_ (by size_fits)
          have R2 := R1.push (ob := { cls := .type "list", data := .seq ([] : List Value).toArray }) e2 s1.toks keeps_push (Nat.le_refl _) (Heap.get?_push_size _ rfl) ⟨[], 0, rfl, trivial⟩
          have hD : (adr (N1 ++ [(s1.heap.objs.size, ({ cls := .type "list", data := .seq ([] : List Value).toArray } : Obj))]))[σ₁.H.n]? = some s1.heap.objs.size := adr_last R1
          have p2 : adr N <+: adr (N1 ++ [(s1.heap.objs.size, ({ cls := .type "list", data := .seq ([] : List Value).toArray } : Obj))]) := p1.trans pfx_push
          have i2 := i1.mono (pfx_push (N := N1) (a := s1.heap.objs.size) (ob := { cls := .type "list", data := .seq ([] : List Value).toArray }))
          have hp12 : adr N1 <+: adr (N1 ++ [(s1.heap.objs.size, ({ cls := .type "list", data := .seq ([] : List Value).toArray } : Obj))]) := pfx_push
          generalize N1 ++ [(s1.heap.objs.size, ({ cls := .type "list", data := .seq ([] : List Value).toArray } : Obj))] = N2 at R2 hD p2 i2 hp12
          generalize s1.heap.objs.size = D at hD ⊢
          show wpAny _ _ (newFunctionEnv scope ev.globals clos [] ev.qual none .none (some ev)) _ _ { s1 with heap := s1.heap.push { cls := .type "list", data := .seq ([] : List Value).toArray } }
          have R2' : Rel G c ev { σ₁ with H := H₁ } m1 N2 ((it, oI) :: X) { s1 with heap := s1.heap.push { cls := .type "list", data := .seq ([] : List Value).toArray } } := R2
          clear R2
          generalize ({ s1 with heap := s1.heap.push { cls := .type "list", data := .seq ([] : List Value).toArray } } : Shared) = s2 at R2' ⊢
          simp only [newFunctionEnv, Option.isSome_some, if_true]
          refine wpAny_bind (wpAny_alloc ?_)
          refine wpAny_bind (wpAny_layCells _ (fun name kind cells => by cases hkc : kind == NameKind.cell <;> simp [hkc]) _ _ _ _ ?_)
          rw [hcf, hpc]
          simp only [List.forIn_nil]
          refine wpAny_bind (wpAny_pure (wpAny_pure ?_))
          have R3 := R2'.xpush (a := s2.heap.objs.size) (ob := { cls := .type "dict", data := .dict #[] }) s2.toks keeps_push (Nat.le_refl _) (Heap.get?_push_size _ rfl)
          have hCn : ev.locals ≠ s2.heap.objs.size := by
            intro q
            have l := R2'.ev.l
            revert l
            cases q2 : ({ σ₁ with H := H₁ } : St).nsi with
            | none =>
              intro l
              have := R2'.fr.ns.lt
              rw [l, ok.fl] at q
              rw [← q] at this; exact absurd this (Nat.lt_irrefl _)
            | some l =>
              rintro ⟨o, mm, a1, _⟩
              have := R2'.size_new _ (List.mem_append_right _ a1)
              rw [← q] at this; exact absurd this (Nat.lt_irrefl _)
          have main : ∀ (cells : List (Str × Addr)) (h4 : Heap) (N4 : List (Addr × Obj)), Rel G c ev { σ₁ with H := H₂ } m1 N4 ((s2.heap.objs.size, { cls := .type "dict", data := .dict #[] }) :: (it, oI) :: X) { s2 with heap := h4 } → adr N2 <+: adr N4 → CsMap (adr N4) cells cs' →
              codeAny (model G.prog G.w) c.A (.compStart (.ListComp elt [⟨.Name x px, iter, ifs, 0⟩] scope pos) 0 (.ref it) (.ref D) { scope := relabel scope ev, locals := s2.heap.objs.size, globals := ev.globals, cells := cells, qual := ev.qual, func := none, code := ev.code, frame := ev.frame, builtins := ev.builtins }) (RR (.ref D) s2.heap.objs.size) { s2 with heap := h4 } := by
            intro cells h4 N4 R4 p4 hcs4
            generalize hcev : ({ scope := relabel scope ev, locals := s2.heap.objs.size, globals := ev.globals, cells := cells, qual := ev.qual, func := none, code := ev.code, frame := ev.frame, builtins := ev.builtins } : Env) = cev
            obtain ⟨o5, g5, n5⟩ := LCg.ns_obj (Heap.Ns.new s2.heap (.type "dict"))
            have g6 : (s2.heap.push { cls := .type "dict", data := .dict #[] }).get? s2.heap.objs.size = some { cls := .type "dict", data := .dict #[] } := Heap.get?_push_size _ rfl
            rw [g6] at g5; cases g5
            have hcl5 : cev.locals = s2.heap.objs.size := by rw [← hcev]
            have hcs5 : cev.scope = relS scope ev.scope := by rw [← hcev]; rfl
            have Rc : Rel G c cev ⟨H₂, σ₁.loc, cs', some []⟩ m1 N4 ((cev.locals, { cls := .type "dict", data := .dict #[] }) :: (it, oI) :: X) { s2 with heap := h4 } := by
              rw [hcl5]
              exact ⟨R4.fr, R4.nw, R4.nd, R4.hp, R4.tb, R4.lo, ⟨by rw [← hcev]; exact R4.ev.g, by rw [← hcev]; exact R4.ev.b, by rw [hcs5]; exact hk, ⟨_, _, by rw [hcl5]; exact .head _, n5, LocMap.nil⟩, by rw [← hcev]; exact hcs4⟩, R4.sh⟩
            have i4 := i2.mono p4
            have hD4 := pfx_get p4 hD
            have q4 := p2.trans p4
            have ev1 : EvOk c (adr N1) X σ₁ ev := R1.ev.more fun o h => (List.mem_cons.mp h).elim (fun q => absurd (congrArg (·.1) q) (it_ne ok R1 i1)) fun h => h
            have p14 : adr N1 <+: adr N4 := hp12.trans p4
            rw [← hcl5] at hCn ⊢
            clear R4 hcs4 g6 R3 R2' hcl hcm e3 hcf hpc
            generalize ({ s2 with heap := h4 } : Shared) = s4 at Rc ⊢
            have loop : codeAny (model G.prog G.w) c.A (.compLoop (.ListComp elt [⟨.Name x px, iter, ifs, 0⟩] scope pos) 0 (.ref it) (.ref D) cev) (RR (.ref D) cev.locals) s4 := by
              refine codeAny_compLoop_tests (fun k s' => ∃ σ₅ m₅ N₅ oC oI I, Rel G c cev σ₅ m₅ N₅ ((cev.locals, oC) :: (it, oI) :: X) s' ∧ ItR (adr N₅) I oI ∧ adr N4 <+: adr N₅ ∧ compL tk ts fe σ₁.H.n k I σ₅ = some σ₃) ?_ n ⟨_, _, _, _, _, _, Rc, i4, pfx_rfl, e4⟩ (fun _ => rfl)
              rintro k s' ⟨σ₅, m₅, N₅, oC, oI, I, R5, i5, p5, h5⟩
              cases k with
              | zero => cases h5
              | succ k =>
                have hne : cev.locals ≠ it := Ne.symm (R5.xne (it, oI) (List.mem_append_right _ (.head _)))
                have Rs := R5.xperm (List.Perm.swap _ _ _)
                simp only [compL] at h5
                split at h5
                · rename_i e5
                  cases h5
                  refine next_ok ok Rs hne i5 e5 (fun v I' x' o' s' e => by cases e) fun s6 _ R6 => ?_
                  refine hRR m₅ N₅ s6 D cev.locals oC ⟨R6.fr, R6.nw, R6.nd, R6.hp, R6.tb, R6.lo, ((ev1.more fun o h => .tail (cev.locals, oC) h).mono (p14.trans p5) rfl rfl), R6.sh⟩ hCn ?_ (q4.trans p5) ⟨D, pfx_get p5 hD4, rfl⟩
                  have l6 := R6.ev.l
                  have hm6 := R6.nw (cev.locals, oC) (List.mem_append_right _ (.head _))
                  revert l6
                  cases σ₃.nsi with
                  | none => intro l6; exact absurd (by rw [l6, ok.fl]) hm6.2.1
                  | some l =>
                    rintro ⟨o', mm, a1, a2, _⟩
                    have g9 := (R6.nw _ (List.mem_append_right _ a1)).1
                    rw [hm6.1] at g9
                    cases g9
                    exact ⟨mm, a2⟩
                · rename_i v' I' e5
                  split at h5
                  · rename_i σ₆ e6
                    refine next_ok ok Rs hne i5 e5 (fun v'' I'' y oI' s6 eq R6 i6 hv => ?_) fun s' e => by cases e
                    cases eq
                    refine wpAny_assign_Name (storeC_ok hcs5 (hs ▸ ht) (R6.xperm (List.Perm.swap _ _ _)) e6 hv fun N7 s7 oC7 R7 p7 => ?_)
                    have step : ∀ (σ₈ : St) (m₈ : Str → Option Value) (N₈ : List (Addr × Obj)) (s₈ : Shared) (E1 E2 : Value → Shared → Prop), Rel G c cev σ₈ m₈ N₈ ((cev.locals, oC7) :: (it, oI') :: X) s₈ → adr N7 <+: adr N₈ →
                        (match fe σ₈ with
                          | some (u, σ₃) => match σ₃.H.get σ₁.H.n with
                            | some (.list xs) => match Nat.blt xs.length 100000, putO σ₁.H.n (.list (xs ++ [u])) σ₃ with
                              | true, some (_, σ₄) => compL tk ts fe σ₁.H.n k I' σ₄
                              | _, _ => .none
                            | _ => .none
                          | .none => .none) = some σ₃ →
                        wpAny (model G.prog G.w) c.A (eval elt cev) (fun z s₉ => wpAny (model G.prog G.w) c.A (call (.builtin "list.append") [.ref D, z]) (fun _ s5 => ∃ m, m < k + 1 ∧ ∃ σ₅ m₅ N₅ oC oI I, Rel G c cev σ₅ m₅ N₅ ((cev.locals, oC) :: (it, oI) :: X) s5 ∧ ItR (adr N₅) I oI ∧ adr N4 <+: adr N₅ ∧ compL tk ts fe σ₁.H.n m I σ₅ = some σ₃) E1 s₉) E2 s₈ := by
                      intro σ₈ m₈ N₈ s₈ E1 E2 R8 p8 h8
                      split at h8
                      · rename_i u σ₉ e8
                        split at h8
                        · rename_i xs e9
                          split at h8
                          · rename_i u' σ₁₀ hb e10
                            refine he c cev σ₈ σ₉ u m₈ N₈ _ s₈ _ _ ok (hs ▸ hcs5) R8 e8 fun m9 N9 s9 z R9 p9 v9 => ?_
                            have pp := ((p5.trans p7).trans p8).trans p9
                            obtain ⟨a, ws, n', ea, hN, hg, hl, hr⟩ := list_at R9 e9 ⟨D, pfx_get pp hD4, rfl⟩
                            cases ea
                            refine append_at hg (fun h' hs' hg' => ?_) (by rw [List.size_toArray, ← hr.length]; exact small_line hb)
                            refine put_at (tk := s9.toks) (Q := fun _ s' => ∃ m, m < k + 1 ∧ ∃ σ₅ m₅ N₅ oC oI I, Rel G c cev σ₅ m₅ N₅ ((cev.locals, oC) :: (it, oI) :: X) s' ∧ ItR (adr N₅) I oI ∧ adr N4 <+: adr N₅ ∧ compL tk ts fe σ₁.H.n m I σ₅ = some σ₃) R9 e10 e9 hN hs' hg' ⟨ws ++ [z], n' + 1, ?_, hr.append ⟨v9, trivial⟩⟩ (fun l e => by cases e) fun m10 N10 s10 y10 R10 p10 v10 =>
                              ⟨k, Nat.lt_succ_self k, _, _, _, _, _, _, R10, i6.mono (((p7.trans p8).trans p9).trans p10), pp.trans p10, h8⟩
                            congr 2
                            exact Array.ext' (by simp)
                          · cases h8
                        · cases h8
                      · cases h8
                    cases hts with
                    | none =>
                      refine wpAny_tests_nil ?_
                      simp only [if_true]
                      exact step _ _ _ _ _ _ R7 pfx_rfl h5
                    | one htt =>
                      rename_i ee tt
                      dsimp only at h5
                      split at h5
                      · rename_i σ₇ e7
                        refine wpAny_tests_one (htt c cev _ _ true _ _ _ _ _ _ ok (hs ▸ hcs5) R7 e7 fun m8 N8 s8 R8 p8 => ?_)
                        simp only [if_true]
                        exact step _ _ _ _ _ _ R8 p8 h5
                      · rename_i σ₇ e7
                        refine wpAny_tests_one (htt c cev _ _ false _ _ _ _ _ _ ok (hs ▸ hcs5) R7 e7 fun m8 N8 s8 R8 p8 => ?_)
                        simp only [Bool.false_eq_true, if_false]
                        exact ⟨k, Nat.lt_succ_self k, _, _, _, _, _, _, R8, i6.mono (p7.trans p8), (p5.trans p7).trans p8, h5⟩
                      · cases h5
                  · cases h5
                · cases h5
            exact codeAny_compStart_list loop (self_iter Rc (.tail _ (.head _)) i4 loop)
          cases tk with
          | loc i =>
            simp only [ownPush] at e3
            cases e3
            exact main clos _ N2 R3 pfx_rfl (hcm.mono p2)
          | cel i =>
            simp only [ownPush] at e3
            split at e3
            · rename_i H' e5
              cases e3
              have R4 := R3.push (ob := { cls := .type "cell", data := .cell none }) e5 s2.toks keeps_push (Nat.le_refl _) (Heap.get?_push_size _ rfl) ⟨none, rfl⟩
              refine main ((nm i, (s2.heap.push { cls := .type "dict", data := .dict #[] }).objs.size) :: clos) _ _ R4 pfx_push fun j kk ej => ?_
              rw [lk_cons] at ej
              by_cases hij : i = j
              · rw [if_pos hij] at ej
                cases ej
                subst hij
                exact ⟨_, by rw [List.lookup_cons]; simp, adr_last R3⟩
              · rw [if_neg hij] at ej
                obtain ⟨a, h1, h2⟩ := hcm j kk ej
                refine ⟨a, ?_, pfx_get (p2.trans pfx_push) h2⟩
                have hj : j < 57 := by
                  obtain ⟨c1, c2⟩ := closM_spec hcl
                  rw [List.append_nil, ← List.map_reverse] at c2
                  rw [c2] at ej
                  exact (c1 j (List.mem_reverse.mp (lk_fun _ j kk ej).1)).1
                rw [List.lookup_cons]
                have hne : (nm j == nm i) = false := by
                  rw [beq_eq_false_iff_ne]
                  exact fun q => hij (nm_inj _ _ (hb57 i rfl) hj q.symm)
                rw [hne]; exact h1
            · cases e3
        · cases h
      · cases h
    · cases h
  · cases h
theorem eCompD {fi : SI} {fr : List Nat} {tk : Tk} {ts : Option SB} {fe : SE} {n : Nat} {σ σ' : St} {v : VV} (h : eComp fi fr tk ts fe n σ = some (v, σ')) : ∃ cl, closM fr σ.cs [] = some cl := by
  unfold eComp at h
  split at h
  · rename_i cl hcl; exact ⟨cl, hcl⟩
  · cases h
structure CompIs (sc : Scope) (scope : Scope) (fr : List Nat) (tk : Tk) (x : Str) : Prop where
  free : (scope.names.filter (·.2 == .free)).map (·.1) = fr.map nm
  st : TkOk (relS scope sc) x tk
  kind : scope.kind = .function
  b57 : ∀ i, tk = .cel i → i < 57
  cf : ∀ n acc, cellsFrom n scope.names acc = ownCells tk n acc
  pc : ∀ hh : Heap, PySem.pushCells hh scope.names = ownHeap tk hh
  names : ∀ y ∈ scope.names, y.2 = .local → scope.names.lookup y.1 = some .local
theorem Snd.comp {elt iter : Expr} {x : Str} {px : Pos} {ifs : List Expr} {scope : Scope} {pos : Pos} {fi : SI} {fr : List Nat} {tk : Tk} {ts : Option SB} {fe : SE} (n : Nat) (hC : CompIs sc scope fr tk x)
    (hi : SndI G d sc iter fi) (hts : TsOk G d (relS scope sc) ifs ts) (he : Snd G d (relS scope sc) elt fe) (hf : ∀ env v, foldedSetIterable iter env v = pure v) : Snd G d sc (.ListComp elt [⟨.Name x px, iter, ifs, 0⟩] scope pos) (eComp fi fr tk ts fe n) := by
  intro c ev σ σ' v m N X s Q E ok hs R h K
  obtain ⟨cl, hcl⟩ := eCompD h
  obtain ⟨clos, hclos, hcm⟩ := capture R.ev.cs hC.free hcl
  rw [eval_ListComp]
  refine wpAny_comprehension_free (use := Option.none) rfl (hf ev) hclos hC.kind hC.names (comp_core (RR := fun acc C => compPost (model G.prog G.w) c.A E Option.none Q acc C) ok hs R h hcl hcm hi hC.st hts he hC.kind hC.b57 hC.cf hC.pc ?_)
  rintro m3 N3 s' D C oC R3 hne ⟨mm, hn⟩ p3 v3
  refine ⟨mm, hn.ns (R3.nw _ (List.mem_append_right _ (.head _))).1, fun h' hs' => ?_⟩
  exact K m3 N3 _ _ (R3.xend hne s'.toks hs'.extBut) p3 v3
/-- a comprehension stored in a local at once -/
def sComp (t : Tk) (f : SE) : SS := sSet t f
theorem SndX.setComp {y : Str} {py : Pos} {elt iter : Expr} {x : Str} {px : Pos} {ifs : List Expr} {scope : Scope} {pos spos : Pos} {fi : SI} {fr : List Nat} {tk : Tk} {ts : Option SB} {fe : SE} {t : Tk} (n : Nat) (hC : CompIs sc scope fr tk x)
    (hi : SndI G d sc iter fi) (hts : TsOk G d (relS scope sc) ifs ts) (he : Snd G d (relS scope sc) elt fe) (hf : ∀ env v, foldedSetIterable iter env v = pure v) (ht : TkOk sc y t)
    (hsw : ∀ env, env.scope = sc → swapsWith (.ListComp elt [⟨.Name x px, iter, ifs, 0⟩] scope pos) (some (.Name y py)) spos.line env = pure true) :
    SndX G d sc (.Assign [.Name y py] (.ListComp elt [⟨.Name x px, iter, ifs, 0⟩] scope pos) spos) (sSet t (eComp fi fr tk ts fe n)) := by
  intro c σ σ' fl m N X s Q E ok hs R h K
  unfold sSet at h
  split at h
  · rename_i v σ₁ h1
    split at h
    · rename_i σ₂ h2
      cases h
      obtain ⟨cl, hcl⟩ := eCompD h1
      obtain ⟨clos, hclos, hcm⟩ := capture R.ev.cs hC.free hcl
      rw [exec_Assign_Name_used _ _ _ _ (hsw _ hs)]
      refine wpAny_bind (wpAny_standAt (wpAny_bind ?_))
      show wpAny _ c.A (do let _ ← comprehension (.ListComp elt [⟨.Name x px, iter, ifs, 0⟩] scope pos) scope c.fenv _ (newList []) false (eval iter c.fenv) (some (assign (.Name y py) c.fenv))) _ _ s
      refine wpAny_bind (wpAny_mono (wpAny_comprehension_free (use := some (assign (.Name y py) c.fenv)) (Q := fun _ s' => Q .next s') rfl (hf _) hclos hC.kind hC.names
        (comp_core (RR := fun acc C => compPost (model G.prog G.w) c.A E (some (assign (.Name y py) c.fenv)) (fun _ s' => Q .next s') acc C) ok hs R h1 hcl hcm hi hC.st hts he hC.kind hC.b57 hC.cf hC.pc ?_)) (fun _ s' hq => wpAny_pure (wpAny_pure hq)) fun _ _ e => e)
      rintro m3 N3 s' D C oC R3 hne ⟨mm, hn⟩ p3 v3
      show wpAny _ c.A (assign (.Name y py) c.fenv (.ref D)) _ _ s'
      refine wpAny_assign_Name (store_ok ok hs ht R3 h2 v3 fun m4 N4 s4 R4 p4 => ?_)
      refine ⟨mm, hn.ns (R4.nw _ (List.mem_append_right _ (.head _))).1, fun h' hs' => ?_⟩
      exact K m4 N4 _ _ (R4.xend hne s4.toks hs'.extBut) (p3.trans p4) rfl
    · cases h
  · cases h

/-! «(script + [0])[0] % k» -/
def hd0 : List Int → Int
  | [] => 0
  | x :: _ => x
def eFirstMod (k r : Int) (f : SE) : SE := fun σ => match eLoc 0 σ with
  | some (.scr, σ₁) => match f σ₁ with
    | some (.int k', σ₂) => match Z.eqB k' k with
      | true => some (.int r, σ₂)
      | false => .none
    | _ => .none
  | _ => .none
theorem Snd.firstMod {e g : Expr} {k0 k1 : Nat} {p0 p1 p2 p3 p4 p5 : Pos} {k r : Int} {f : SE} (he : Snd G d sc e (eLoc 0)) (hg : Snd G d sc g f) (hr : (hd0 G.ns).fmod k = r) (hk0 : k ≠ 0) (hn : G.ns.length < 99999)
    (h1 : ∀ env, starEach [.Constant (.int 0) k0 p0] env = (false, eval (.Constant (.int 0) k0 p0) env) :: starEach [] env)
    (hsub : ∀ (a : Addr) (z : Int) (t : Tok), subscripted (.Constant (.int 0) k1 p3) false (.ref a) (.int z t) = operate [.ref a, .int z t] (getItem (.ref a) (.int z t))) :
    Snd G d sc (.BinOp (.Subscript (.BinOp e .Add (.List [.Constant (.int 0) k0 p0] p1) p2) (.Constant (.int 0) k1 p3) p4) .Mod g p5) (eFirstMod k r f) := by
  intro c ev σ σ' v m N X s Q E ok hs R h K
  unfold eFirstMod at h
  split at h
  · rename_i σ₁ e1
    split at h
    · rename_i k' σ₂ e2
      split at h
      · rename_i hk
        cases h
        have hk : k' = k := (Z.eqB_iff _ _).mp hk
        subst hk
        refine wpAny_BinOp (Subscript_ (wpAny_BinOp (he c ev σ _ _ m N X s _ E ok hs R e1 fun m1 N1 s1 x R1 p1 v1 => ?_)))
        cases v1
        refine wpAny_List (wpAny_items_cons (wpAny_Constant_int (wpAny_items_nil ⟨by show 1 ≤ sizeLine; rw [sizeLine_eq]; omega, ?_⟩)) (h1 ev))
        have hl : s1.heap.IsList c.q c.qv.toArray := by
          obtain ⟨o, ho, r⟩ := ok.isl
          exact ⟨o, R1.fr.keep _ _ ho, r⟩
        have hlen : c.qv.length = G.ns.length := ok.isi.length
        have R2 := R1.keeps (h' := s1.heap.push { cls := .type "list", data := .seq ([Value.int 0 s1.toks] : List Value).toArray }) (s1.toks + 1) keeps_push
        have hl2 : (s1.heap.push { cls := .type "list", data := .seq ([Value.int 0 s1.toks] : List Value).toArray }).IsList s1.heap.objs.size #[Value.int 0 s1.toks] := ⟨_, Heap.get?_push_size _ rfl, rfl, 0, rfl⟩
        refine add_arrays (s := { s1 with heap := s1.heap.push { cls := .type "list", data := .seq ([Value.int 0 s1.toks] : List Value).toArray }, toks := s1.toks + 1 }) R2.fr R2.nw (hl.push _) hl2 (fun h' F' N' => ?_) (by simp only [List.size_toArray]; rw [sizeLine_eq, hlen]; show G.ns.length + 1 ≤ _; omega)
        have hnew := (N' _ (.head _)).1
        refine wpAny_Constant_int ?_
        have R3 : Rel G c ev σ₁ m1 N1 X { s1 with heap := h', toks := s1.toks + 1 + 1 } := ⟨F', fun p hp => N' p (.tail _ hp), R1.nd, R1.hp, R1.tb, R1.lo, R1.ev, by have e := R1.sh; rw [e]⟩
        have hi2 : IntsAre (c.qv.toArray.toList ++ (#[Value.int 0 s1.toks] : Array Value).toList) (G.ns ++ [0]) := ok.isi.append (.cons 0 s1.toks .nil)
        obtain ⟨t0, ht0⟩ := hi2.get 0 (hd0 G.ns) (by cases G.ns <;> rfl)
        have hl3 : h'.IsList (s1.heap.push { cls := .type "list", data := .seq ([Value.int 0 s1.toks] : List Value).toArray }).objs.size (c.qv.toArray.toList ++ (#[Value.int 0 s1.toks] : Array Value).toList).toArray := ⟨_, hnew, rfl, 0, rfl⟩
        refine tail_any (s := { s1 with heap := h', toks := s1.toks + 1 + 1 }) hl3.typeIs slot_list_getitem.lookup (getItem_any (j := 0) hl3 ?_ ?_ ht0 ?_) (hsub _ 0 _)
        · have : 0 < (c.qv.toArray.toList ++ (#[Value.int 0 s1.toks] : Array Value).toList).length := by simp
          show (match Nat.blt 0 (c.qv.toArray.toList ++ (#[Value.int 0 s1.toks] : Array Value).toList).length with | true => some 0 | false => Option.none) = some 0
          have e : Nat.blt 0 (c.qv.toArray.toList ++ (#[Value.int 0 s1.toks] : Array Value).toList).length = true := Nat.ble_eq_true_of_le this
          rw [e]
        · rw [hi2.length, List.length_append]; show G.ns.length + 1 < 100000; omega
        · refine hg c ev σ₁ _ _ m1 N1 X _ _ E ok hs R3 e2 fun m2 N2 s2 y R4 p2 v2 => ?_
          obtain ⟨t2, rfl⟩ := v2
          exact mod_int' hk0 (K _ _ _ _ (R4.tok _) (p1.trans p2) ⟨_, by rw [hr]⟩)
      · cases h
    · cases h
  · cases h
end
end Mine
open PySem PySem.W PyProof.Rows PySem.Calls
set_option Elab.async false
set_option maxRecDepth 100000
namespace Mine
section
variable {G : Gl} {d : Nat} {sc : Scope}
def neL : List VV → Bool
  | [] => false
  | _ :: _ => true
def tLst (f : SE) : SB := fun σ => match f σ with
  | some (.ref k, σ') => match σ'.H.get k with
    | some (.list xs) => match Nat.blt xs.length 100000 with
      | true => some (neL xs, σ')
      | false => .none
    | _ => .none
  | _ => .none
theorem SndT.lst {e : Expr} {f : SE} (h : Snd G d sc e f) (he : ∀ env whole, isTrue e env whole = (do let v ← whole; standAt e.pos; holding [v] (truthy v))) : SndT G d sc e (tLst f) := by
  intro c ev σ σ' b m N X s Q E ok hs R hf K
  refine wpAny_isTrue_value ?_ (he _ _)
  unfold tLst at hf
  split at hf
  · rename_i k σ'' h1
    split at hf
    · rename_i xs hx
      split at hf
      · rename_i hb
        cases hf
        exact h c ev σ _ _ m N X s _ E ok hs R h1 fun m1 N1 s1 x R1 p1 v1 => by
          obtain ⟨a, ws, n, rfl, hN, hg, hl, hr⟩ := list_at R1 hx v1
          have hb' := bltN hb
          refine wpAny_truthy_list hl (by rw [List.size_toArray, ← hr.length]; omega) ?_
          have := K _ _ _ (R1.tok (s1.toks + 1 + 1)) p1
          have e : neL xs = !ws.toArray.isEmpty := by
            cases xs with
            | nil => cases ws with | nil => rfl | cons _ _ => cases hr
            | cons _ _ => cases ws with | nil => cases hr | cons _ _ => rfl
          rw [← e]; exact this
      · cases hf
    · cases hf
  · cases hf
def setTup (tk : List Tk) : VV → St → Option St := fun v σ => match v with
  | .ref k => match σ.H.get k with
    | some (.tup vs) => setTs tk vs σ
    | _ => .none
  | _ => .none
def isLst : It → Bool
  | .lst _ _ => true
  | _ => false
def sForT (n : Nat) (f : SI) (tk : List Tk) (b : SS) : SS := fun σ => match f σ with
  | some (I, σ₁) => match isLst I with
    | true => forL (setTup tk) b n I σ₁
    | false => .none
  | .none => .none
theorem isLst_next {H : VH} {I I' : It} {v : VV} (h : isLst I = true) (e : itNext H I = some (some (v, I'))) : isLst I' = true := by
  cases I with
  | lst k i =>
    unfold itNext at e
    split at e
    · rename_i heq
      split at e
      · split at e
        · cases e; rfl
        · cases e
      · cases e
    · rename_i heq; cases heq
    · rename_i heq; cases heq
  | rng x n => cases h
  | rev k n => cases h
theorem SndX.forT {ts : List Expr} {e1 : Nat} {tp pos : Pos} {e : Expr} {b : List Stmt} {f : SI} {g : SS} {tk : List Tk} (n : Nat) (he : SndI G d sc e f) (ht : Tgts sc ts tk) (hb : SndS G d sc b g) (hf : ∀ env v, foldedSetIterable e env v = pure v) : SndX G d sc (.For (.Tuple ts e1 tp) e b [] pos) (sForT n f tk g) := by
  intro c σ σ' fl m N X s Q E ok hs R h K
  unfold sForT at h
  split at h
  · rename_i I₀ σ₀ e0
    split at h
    · rename_i hl0
      refine wpAny_For (he c c.fenv σ _ _ m N X s _ E ok hs R e0 fun m0 N0 s0 it o0 R0 p0 i0 => ?_) (hf _)
      refine codeAny_forLoop_any (fun k s' => ∃ σ₁ m₁ N₁ o I, Rel G c c.fenv σ₁ m₁ N₁ ((it, o) :: X) s' ∧ ItR (adr N₁) I o ∧ isLst I = true ∧ adr N <+: adr N₁ ∧ forL (setTup tk) g k I σ₁ = some (fl, σ')) ?_ n ⟨_, _, _, _, _, R0, i0, hl0, p0, h⟩
      rintro k s1 ⟨σ₁, m₁, N₁, o, I, R1, i1, l1, p1, h1⟩
      cases k with
      | zero => cases h1
      | succ k =>
        simp only [forL] at h1
        split at h1
        · rename_i e1
          cases h1
          refine next_ok ok R1 (fenv_ne ok R1) i1 e1 (fun v I' x' o' s' e => by cases e) fun s' _ R2 => ?_
          exact wpAny_execs_nil (K _ _ _ _ R2 p1 rfl)
        · rename_i v I' e1
          split at h1
          · rename_i σ₂ e2
            refine next_ok ok R1 (fenv_ne ok R1) i1 e1 (fun v' I'' x' o' s' e R2 i2 hv => ?_) fun s' e => by cases e
            cases e
            have l2 := isLst_next l1 e1
            unfold setTup at e2
            split at e2
            · rename_i kk
              split at e2
              · rename_i vs hg
                have hv0 := hv
                obtain ⟨T, hT, rfl⟩ := hv
                have hit := (R2.nw (it, o') (List.mem_append_right _ (.head _))).1
                have hli : ∃ l i, s'.heap.IsListIter it l i := by
                  cases I' with
                  | lst a b => obtain ⟨x, q1, q2, q3⟩ := i2; exact ⟨x, b, o', hit, q2, q3⟩
                  | rng _ _ => cases l2
                  | rev _ _ => cases l2
                obtain ⟨l, i, hli⟩ := hli
                refine wpAny_letOwnedTupleGo_listiter hli ?_
                refine unpack_ok ok hs ht R2 hg hv0 e2 fun m2 N2 s2 R3 p2 => ?_
                split at h1
                · rename_i σ₃ e3
                  refine hb c _ _ _ m2 N2 _ s2 _ _ ok hs R3 e3 fun m3 N3 s3 z R4 p3 v3 => ?_
                  cases v3
                  exact ⟨k, Nat.lt_succ_self k, _, _, _, _, _, R4, i2.mono (p2.trans p3), l2, p1.trans (p2.trans p3), h1⟩
                · rename_i u σ₃ e3
                  cases h1
                  refine hb c _ _ _ m2 N2 _ s2 _ _ ok hs R3 e3 fun m3 N3 s3 z R4 p3 v3 => ?_
                  obtain ⟨y, rfl, hy⟩ := v3
                  exact K _ _ _ _ (R4.xdrop (fenv_ne ok R4)) (p1.trans (p2.trans p3)) ⟨y, rfl, hy⟩
                · cases h1
              · cases e2
            · cases e2
          · cases h1
        · cases h1
    · cases h
  · cases h
end
end Mine
open PySem PySem.W PyProof.Rows PySem.Calls
set_option Elab.async false
set_option maxRecDepth 100000
namespace Mine
def stAt (l : List Stmt) (i : Nat) : Stmt := l.getD i (.Pass ⟨0, 0, 0, 0⟩)
def noArgs : Arguments := { posonlyargs := [], args := [], vararg := none, kwonlyargs := [], kw_defaults := [], kwarg := none, defaults := [] }
def bodyOf : Stmt → List Stmt
  | .FunctionDef _ _ b _ _ _ _ _ _ _ => b
  | _ => []
def paramsOf : Stmt → Arguments
  | .FunctionDef _ a _ _ _ _ _ _ _ _ => a
  | _ => noArgs
def scopeOf : Stmt → Scope
  | .FunctionDef _ _ _ _ _ _ s _ _ _ => s
  | _ => ⟨.module, [], false, false, []⟩
def nameOf : Stmt → Str
  | .FunctionDef n _ _ _ _ _ _ _ _ _ => n
  | _ => "?"
def posOf : Stmt → Pos
  | .FunctionDef _ _ _ _ _ _ _ _ _ p => p
  | _ => ⟨0, 0, 0, 0⟩
def bodyAt (p : Program) (i : Nat) : List Stmt := bodyOf (stAt p.main.body i)
def paramsAt (p : Program) (i : Nat) : Arguments := paramsOf (stAt p.main.body i)
def scopeAt (p : Program) (i : Nat) : Scope := scopeOf (stAt p.main.body i)
def innerAt (p : Program) (i j : Nat) (q : Str) : FnSpec :=
  let s := stAt (bodyAt p i) j
  { name := nameOf s, qual := q ++ nameOf s, params := paramsOf s, body := bodyOf s, scope := scopeOf s, pos := posOf s }
section
variable {G : Gl} {d d' : Nat}
theorem Cx.Ok.le {c : Cx} (h : d ≤ d') (ok : c.Ok G d') : c.Ok G d :=
  { ok with room := by have := ok.room; omega, units := by have := ok.units; omega }
theorem CallF.le {x : Str} {F : List VV → SE} (h : d ≤ d') (k : CallF G d x F) : CallF G d' x F := by
  obtain ⟨f, fo, h1, h2, h3, h4⟩ := k
  exact ⟨f, fo, h1, h2, h3, fun c ev σ σ' v vs m N X s xs Q E ok => h4 c ev σ σ' v vs m N X s xs Q E (ok.le h)⟩
theorem CloOk.le {t : Nat} {F : List (Nat × Nat) → List VV → SE} (h : d ≤ d') (k : CloOk G d t F) : CloOk G d' t F :=
  fun c ev σ σ' v kk j cl vs m N X s f xs Q E ok => k c ev σ σ' v kk j cl vs m N X s f xs Q E (ok.le h)
theorem CallF.zero {x : Str} {names : List Str} {params : Arguments} {body : List Stmt} {sc : Scope} {f : Addr} (h : FnIs G x names params body sc f) : CallF G d x (fun _ _ => .none) := by
  obtain ⟨ns, fo, dV, kV, doc, pm, an, cdv, ct, h1, h2, h3, h4, h5⟩ := h
  exact ⟨f, fo, ns, h1, ⟨_, h2⟩, fun c ev σ σ' v vs m N X s xs Q E ok R hv h K => by cases h⟩
theorem cellin_go (i : Nat) : ∀ order : List (Nat × Nat), order.any (fun p => p.1 == i) = true → ((order.map fun p => (nm p.1, p.2)).lookup (nm i)).isSome = true
  | [], h => by cases h
  | p :: r, h => by
    rw [List.map_cons, List.lookup_cons]
    cases hq : (nm i == nm p.1) with
    | true => rfl
    | false =>
      rw [List.any_cons] at h
      rcases Bool.or_eq_true_iff.mp h with h | h
      · rw [beq_iff_eq.mp h] at hq; simp at hq
      · exact cellin_go i r h
def celIn (order : List (Nat × Nat)) : Tk → Bool
  | .cel i => order.any fun p => p.1 == i
  | .loc _ => true
theorem cellin_of {ts : List Tk} {order : List (Nat × Nat)} (h : ts.all (celIn order) = true) : ∀ i, Tk.cel i ∈ ts → ((order.map fun p => (nm p.1, p.2)).lookup (nm i)).isSome = true :=
  fun i hi => cellin_go i order (List.all_eq_true.mp h _ hi)
end
end Mine
open PySem PySem.W PyProof.Rows PySem.Calls
set_option Elab.async false
set_option linter.unusedVariables false
set_option maxRecDepth 100000
namespace Mine
/-! the start -/
def push0 (H : VH) (o : VO) : VH := ⟨H.n + 1, Tr.set 20 H.t H.n o⟩
theorem push_is {H : VH} {o : VO} (h : H.n < 200000) : H.push o = some (push0 H o) := by
  unfold VH.push
  have : Nat.blt H.n 200000 = true := Nat.ble_eq_true_of_le h
  rw [this]; rfl
theorem HOk.zero {S : Specs} {q : Addr} {ρ : List Addr} : HOk S q ρ [] ⟨0, .nil⟩ := ⟨rfl, fun i o e => by cases e⟩
theorem HOk.push {S : Specs} {q : Addr} {ρ : List Addr} {N : List (Addr × Obj)} {H : VH} {o : VO} {a : Addr} {ob : Obj} (h : HOk S q ρ N H) (hb : H.n < 200000) (ho : OR S q ρ o ob) : HOk S q ρ (N ++ [(a, ob)]) (push0 H o) := by
  obtain ⟨e1, e2⟩ := VH.push_get (push_is (o := o) hb)
  refine ⟨by rw [e1, h.1]; simp, fun i x e => ?_⟩
  rw [e2] at e
  by_cases hi : i = H.n
  · rw [if_pos hi] at e; cases e
    refine ⟨(a, ob), ?_, ho⟩
    rw [hi, h.1, List.getElem?_append_right (Nat.le_refl _)]; simp
  · rw [if_neg hi] at e
    obtain ⟨p, hpm, r⟩ := h.2 i x e
    refine ⟨p, ?_, r⟩
    rw [List.getElem?_append_left (lt_of_get hpm)]; exact hpm
def isTab : Option VO → Bool
  | some .tabE => true
  | some (.tabF _ _) => true
  | _ => false
def okT (r : Option (Fl × St)) : Bool := match r with
  | some (.ret (.bool true), σ) => match isTab (σ.H.get 0), isTab (σ.H.get 1) with
    | true, true => true
    | _, _ => false
  | _ => false
theorem okT_is {r : Option (Fl × St)} (h : okT r = true) : ∃ σ, r = some (.ret (.bool true), σ) ∧ isTab (σ.H.get 0) = true ∧ isTab (σ.H.get 1) = true := by
  unfold okT at h
  split at h
  · rename_i σ
    split at h
    · rename_i h1 h2; exact ⟨σ, rfl, h1, h2⟩
    · cases h
  · cases h
/-! the given facts of a module's def -/
def FnK (K : Frag) (x : Str) (names : List Str) (params : Arguments) (body : List Stmt) (sc : Scope) (cdp : Value → Prop) : Prop :=
  ∃ f fo dV kV doc pm an cdv ct, nsIn K mainGlobals x = some (some (.ref f)) ∧ K.lookup f = some fo ∧ fo.data = .func (fnX x x params body sc [] dV kV doc pm an cdv ct) ∧ codeIn K cdv x = true ∧ cdp cdv ∧
    (∀ xs : List Value, xs.length = names.length → bindArgs (fnX x x params body sc [] dV kV doc pm an cdv ct) ⟨xs, []⟩ = pure (names.zip xs))
def cqOf (c1 c2 : Addr) (sc : Scope) (cd : Value) (ql : Str) : Prop :=
  (sc.names.lookup (nm 36) = some .cell ∧ cd = .ref c1 ∧ ql = "_int2digits.<locals>.") ∨ (sc.names.lookup (nm 42) = some .cell ∧ cd = .ref c2 ∧ ql = "_digits2int.<locals>.")
def mkG (prog : Program) (w : World) (K : Frag) (p : Program) (loose : List Str) (mean : ExcName → Option Value) (mg mb : Str → Option Value) (S : Specs) (ns : List Int) (c1 P1 c2 P2 : Addr) : Gl :=
  ⟨prog, w, K, p, loose, mean, mg, mb, S, ns, [(c1, P1), (c2, P2)], cqOf c1 c2⟩
section
variable {prog : Program} {w : World} {K : Frag} {p : Program} {loose : List Str} {mean : ExcName → Option Value} {mg mb : Str → Option Value} {S : Specs} {ns : List Int} {c1 P1 c2 P2 : Addr}
theorem mkFn {x : Str} {names : List Str} {params : Arguments} {body : List Stmt} {sc : Scope} {cdp : Value → Prop} (h : FnK K x names params body sc cdp) (hc : ∀ v, cdp v → ∀ cd ql, cqOf c1 c2 sc cd ql → v = cd ∧ (x ++ ".<locals>." : Str) = ql) :
    ∃ f, FnIs (mkG prog w K p loose mean mg mb S ns c1 P1 c2 P2) x names params body sc f := by
  obtain ⟨f, fo, dV, kV, doc, pm, an, cdv, ct, h1, h2, h3, h4, h5, h6⟩ := h
  exact ⟨f, h1, fo, dV, kV, doc, pm, an, cdv, ct, h2, h3, h4, hc cdv h5, h6⟩
theorem noCq {sc : Scope} {c1 c2 : Addr} (h1 : sc.names.lookup (nm 36) ≠ some .cell) (h2 : sc.names.lookup (nm 42) ≠ some .cell) : ∀ cd ql, ¬ cqOf c1 c2 sc cd ql := fun cd ql h => by
  rcases h with h | h
  · exact h1 h.1
  · exact h2 h.1
theorem grown_of {S : Specs} {q : Addr} {N N' : List (Addr × Obj)} {H : VH} {h : Heap} {P : Addr} {i : Nat} {h₀ : Heap} {L : Addr} (hk : HOk S q (adr N') N' H) (nw : News h₀ L h N') (pf : adr N <+: adr N') (hP : (adr N)[i]? = some P) (ht : isTab (H.get i) = true) : GrownAt P h := by
  have hP' := pfx_get pf hP
  unfold isTab at ht
  split at ht
  · rename_i e
    obtain ⟨a, ob, hN, rfl⟩ := hk.at e
    rw [adr_get hN] at hP'; cases hP'
    exact ⟨_, (nw _ (adr_mem hN)).1⟩
  · rename_i e
    obtain ⟨a, ob, hN, aj, f, _, _, rfl⟩ := hk.at e
    rw [adr_get hN] at hP'; cases hP'
    exact ⟨_, (nw _ (adr_mem hN)).1⟩
  · cases ht
end
end Mine
open PySem PySem.W PyProof.Rows PySem.Calls
set_option Elab.async false
namespace Mine
theorem lenCase1 {P : List Value → Prop} (h : ∀ a, P [a]) : ∀ xs : List Value, xs.length = 1 → P xs
  | [a], _ => h a
theorem lenCase2 {P : List Value → Prop} (h : ∀ a b, P [a, b]) : ∀ xs : List Value, xs.length = 2 → P xs
  | [a, b], _ => h a b
theorem lenCase3 {P : List Value → Prop} (h : ∀ a b c, P [a, b, c]) : ∀ xs : List Value, xs.length = 3 → P xs
  | [a, b, c], _ => h a b c
end Mine
open PySem PySem.W PyProof.Rows PySem.Calls
set_option Elab.async false
set_option linter.unusedVariables false
set_option maxRecDepth 100000
set_option maxHeartbeats 4000000
namespace Mine
abbrev pw : Program := PySem.Challenge.pw_ic0007_01
structure W (G : Gl) : Prop where
  len : nsIn G.K mainGlobals "len" = some .none
  divmod : nsIn G.K mainGlobals "divmod" = some .none
  list : nsIn G.K mainGlobals "list" = some .none
  sum : nsIn G.K mainGlobals "sum" = some .none
  range : nsIn G.K mainGlobals "range" = some .none
  reversed : nsIn G.K mainGlobals "reversed" = some .none
  lim : ∃ t, nsIn G.K mainGlobals "_DIV_LIMIT" = some (some (.int 4000 t))
  iq : ∃ cc, G.cq (scopeAt pw 7) (.ref cc) "_int2digits.<locals>." ∧ ∃ P, G.tabs[0]? = some (cc, P)
  dq : ∃ cc, G.cq (scopeAt pw 8) (.ref cc) "_digits2int.<locals>." ∧ ∃ P, G.tabs[1]? = some (cc, P)
  sp0 : G.S 0 = some (innerAt pw 7 1 "_int2digits.<locals>.")
  sp1 : G.S 1 = some (innerAt pw 8 0 "_digits2int.<locals>.")
  nq0 : ∀ cd ql, ¬ G.cq (innerAt pw 7 1 "_int2digits.<locals>.").scope cd ql
  nq1 : ∀ cd ql, ¬ G.cq (innerAt pw 8 0 "_digits2int.<locals>.").scope cd ql
  f_add_callers : ∃ f, FnIs G "add_callers" ["target", "source"] (paramsAt pw 2) (bodyAt pw 2) (scopeAt pw 2) f
  f_add_func_stats : ∃ f, FnIs G "add_func_stats" ["target", "source"] (paramsAt pw 1) (bodyAt pw 1) (scopeAt pw 1) f
  f__div2n1n : ∃ f, FnIs G "_div2n1n" ["a", "b", "n"] (paramsAt pw 5) (bodyAt pw 5) (scopeAt pw 5) f
  f__int2digits : ∃ f, FnIs G "_int2digits" ["a", "n"] (paramsAt pw 7) (bodyAt pw 7) (scopeAt pw 7) f
  f__digits2int : ∃ f, FnIs G "_digits2int" ["digits", "n"] (paramsAt pw 8) (bodyAt pw 8) (scopeAt pw 8) f
  f__divmod_pos : ∃ f, FnIs G "_divmod_pos" ["a", "b"] (paramsAt pw 9) (bodyAt pw 9) (scopeAt pw 9) f
  f_int_divmod : ∃ f, FnIs G "int_divmod" ["a", "b"] (paramsAt pw 10) (bodyAt pw 10) (scopeAt pw 10) f
  f__law_ways : ∃ f, FnIs G "_law_ways" ["many"] (paramsAt pw 12) (bodyAt pw 12) (scopeAt pw 12) f
  f__law_crosswise : ∃ f, FnIs G "_law_crosswise" ["table"] (paramsAt pw 13) (bodyAt pw 13) (scopeAt pw 13) f
  f__law_signed : ∃ f, FnIs G "_law_signed" ["rows"] (paramsAt pw 14) (bodyAt pw 14) (scopeAt pw 14) f
section
variable {G : Gl}
def m_add_callers : SS :=
  (sSeq (sSet (.loc 30) eDict0)
  (sSeq (sNoItems (eLoc 18))
  (sSeq (sNoItems (eLoc 19))
  (sSeq (sRet (eLoc 30))
  sNil))))
def g_add_callers : List VV → SE := gFun [.loc 18, .loc 19] [] m_add_callers
theorem m_add_callers_ok (w : W G) : SndS G 0 (scopeAt pw 2) (bodyAt pw 2) m_add_callers := by
  exact (SndS.cons (SndX.set Snd.dict0 ⟨rfl, rfl⟩ fun _ _ => rfl)
  (SndS.cons (SndX.noItems (Snd.loc 18 rfl rfl rfl) rfl (fun _ => ⟨_, rfl⟩) fun _ _ => rfl)
  (SndS.cons (SndX.noItems (Snd.loc 19 rfl rfl rfl) rfl (fun _ => ⟨_, rfl⟩) fun _ _ => rfl)
  (SndS.cons (SndX.ret (Snd.loc 30 rfl rfl rfl))
  SndS.nil))))
theorem g_add_callers_ok (w : W G) : CallF G 1 "add_callers" g_add_callers :=
  let ⟨_, h⟩ := w.f_add_callers; callF (ts := [.loc 18, .loc 19]) (order := []) h (.cons ⟨rfl, rfl⟩ (.cons ⟨rfl, rfl⟩ .nil)) (m_add_callers_ok w) (fun _ => rfl) (by decide) (by decide) (cellin_of rfl) (by decide) rfl rfl rfl
def m_add_func_stats : SS :=
  (sSeq (sTup [.loc 20, .loc 21, .loc 22, .loc 23, .loc 24] (eLoc 19))
  (sSeq (sTup [.loc 25, .loc 26, .loc 27, .loc 28, .loc 29] (eLoc 18))
  (sSeq (sRet (eTup (lCons (eBin iAdd (eLoc 20) (eLoc 25)) (lCons (eBin iAdd (eLoc 21) (eLoc 26)) (lCons (eBin iAdd (eLoc 22) (eLoc 27)) (lCons (eBin iAdd (eLoc 23) (eLoc 28)) (lCons (eCall g_add_callers (lCons (eLoc 29) (lCons (eLoc 24) lNil))) lNil)))))))
  sNil)))
def g_add_func_stats : List VV → SE := gFun [.loc 18, .loc 19] [] m_add_func_stats
theorem m_add_func_stats_ok (w : W G) : SndS G 1 (scopeAt pw 1) (bodyAt pw 1) m_add_func_stats := by
  exact (SndS.cons (SndX.tup (Snd.loc 19 rfl rfl rfl) (.cons ⟨rfl, rfl⟩ (.cons ⟨rfl, rfl⟩ (.cons ⟨rfl, rfl⟩ (.cons ⟨rfl, rfl⟩ (.cons ⟨rfl, rfl⟩ .nil))))) (fun _ _ => rfl) fun _ _ => rfl)
  (SndS.cons (SndX.tup (Snd.loc 18 rfl rfl rfl) (.cons ⟨rfl, rfl⟩ (.cons ⟨rfl, rfl⟩ (.cons ⟨rfl, rfl⟩ (.cons ⟨rfl, rfl⟩ (.cons ⟨rfl, rfl⟩ .nil))))) (fun _ _ => rfl) fun _ _ => rfl)
  (SndS.cons (SndX.ret (Snd.tup (SndL.cons (Snd.bin (Snd.loc 20 rfl rfl rfl) (Snd.loc 25 rfl rfl rfl) add_ok) (SndL.cons (Snd.bin (Snd.loc 21 rfl rfl rfl) (Snd.loc 26 rfl rfl rfl) add_ok) (SndL.cons (Snd.bin (Snd.loc 22 rfl rfl rfl) (Snd.loc 27 rfl rfl rfl) add_ok) (SndL.cons (Snd.bin (Snd.loc 23 rfl rfl rfl) (Snd.loc 28 rfl rfl rfl) add_ok) (SndL.cons (Snd.callG (CallF.le (by decide) (g_add_callers_ok w)) (SndL.cons (Snd.loc 29 rfl rfl rfl) (SndL.cons (Snd.loc 24 rfl rfl rfl) SndL.nil fun _ => rfl) fun _ => rfl) rfl rfl (fun _ => rfl) (fun _ => rfl) fun _ => rfl) SndL.nil fun _ => rfl) fun _ => rfl) fun _ => rfl) fun _ => rfl) fun _ => rfl)))
  SndS.nil)))
theorem g_add_func_stats_ok (w : W G) : CallF G 2 "add_func_stats" g_add_func_stats :=
  let ⟨_, h⟩ := w.f_add_func_stats; callF (ts := [.loc 18, .loc 19]) (order := []) h (.cons ⟨rfl, rfl⟩ (.cons ⟨rfl, rfl⟩ .nil)) (m_add_func_stats_ok w) (fun _ => rfl) (by decide) (by decide) (cellin_of rfl) (by decide) rfl rfl rfl
def m__div2n1n : SS :=
  (sSeq (sIf (tCmp cLe (eBin iSub (eBits (eLoc 33)) (eLoc 35)) (eInt 4000)) (sSeq (sRet (eCall gDivmod (lCons (eLoc 33) (lCons (eLoc 34) lNil))))
  sNil) sNil) sFail)
def g__div2n1n : List VV → SE := gFun [.loc 33, .loc 34, .loc 35] [] m__div2n1n
theorem m__div2n1n_ok (w : W G) : SndS G 0 (scopeAt pw 5) (bodyAt pw 5) m__div2n1n := by
  obtain ⟨tl, hlim⟩ := w.lim
  exact (SndS.cons (SndX.if (SndT.cmp (Snd.bin (Snd.bits (Snd.loc 33 rfl rfl rfl) rfl fun _ => ⟨_, rfl⟩) (Snd.loc 35 rfl rfl rfl) sub_ok) (Snd.gint hlim rfl rfl) le_ok rfl) (SndS.cons (SndX.ret (Snd.callB divmod_ok (SndL.cons (Snd.loc 33 rfl rfl rfl) (SndL.cons (Snd.loc 34 rfl rfl rfl) SndL.nil fun _ => rfl) fun _ => rfl) w.divmod PyProof.Rows.boot_divmod (by decide) rfl rfl (fun _ => rfl) (fun _ => rfl) fun _ => rfl))
  SndS.nil) SndS.nil) SndS.fail)
theorem g__div2n1n_ok (w : W G) : CallF G 1 "_div2n1n" g__div2n1n :=
  let ⟨_, h⟩ := w.f__div2n1n; callF (ts := [.loc 33, .loc 34, .loc 35]) (order := []) h (.cons ⟨rfl, rfl⟩ (.cons ⟨rfl, rfl⟩ (.cons ⟨rfl, rfl⟩ .nil))) (m__div2n1n_ok w) (fun _ => rfl) (by decide) (by decide) (cellin_of rfl) (by decide) rfl rfl rfl
def b__int2digits (F : List (Nat × Nat) → List VV → SE) : SS :=
  (sSeq (sIf (tCmp cEq (eBin iAdd (eLoc 45) (eInt 1)) (eLoc 46)) (sSeq (sSub (eLoc 44) (eCel 36) (eLoc 45))
  (sSeq sRetN
  sNil)) sNil)
  (sSeq (sSet (.loc 47) (eBin iShr (eBin iAdd (eLoc 45) (eLoc 46)) (eInt 1)))
  (sSeq (sSet (.loc 48) (eBin iMul (eBin iSub (eLoc 47) (eLoc 45)) (eCel 35)))
  (sSeq (sSet (.loc 49) (eBin iShr (eLoc 44) (eLoc 48)))
  (sSeq (sSet (.loc 50) (eBin iXor (eLoc 44) (eBin iShl (eLoc 49) (eLoc 48))))
  (sSeq (sExp (eClo 0 F (eCel 43) (lCons (eLoc 50) (lCons (eLoc 45) (lCons (eLoc 47) lNil)))))
  (sSeq (sExp (eClo 0 F (eCel 43) (lCons (eLoc 49) (lCons (eLoc 47) (lCons (eLoc 46) lNil)))))
  sNil)))))))
theorem b__int2digits_ok {F : List (Nat × Nat) → List VV → SE} {d : Nat} (hF : CloOk G d 0 F) : SndS G d (innerAt pw 7 1 "_int2digits.<locals>.").scope (innerAt pw 7 1 "_int2digits.<locals>.").body (b__int2digits F) :=
  (SndS.cons (SndX.if (SndT.cmp (Snd.bin (Snd.loc 45 rfl rfl rfl) Snd.int add_ok) (Snd.loc 46 rfl rfl rfl) eq_ok rfl) (SndS.cons (SndX.sub (Snd.loc 44 rfl rfl rfl) (Snd.free 36 rfl rfl rfl rfl) (Snd.loc 45 rfl rfl rfl) fun _ _ => rfl)
  (SndS.cons SndX.retN
  SndS.nil)) SndS.nil)
  (SndS.cons (SndX.set (Snd.bin (Snd.bin (Snd.loc 45 rfl rfl rfl) (Snd.loc 46 rfl rfl rfl) add_ok) Snd.int shr_ok) ⟨rfl, rfl⟩ fun _ _ => rfl)
  (SndS.cons (SndX.set (Snd.bin (Snd.bin (Snd.loc 47 rfl rfl rfl) (Snd.loc 45 rfl rfl rfl) sub_ok) (Snd.free 35 rfl rfl rfl rfl) mul_ok) ⟨rfl, rfl⟩ fun _ _ => rfl)
  (SndS.cons (SndX.set (Snd.bin (Snd.loc 44 rfl rfl rfl) (Snd.loc 48 rfl rfl rfl) shr_ok) ⟨rfl, rfl⟩ fun _ _ => rfl)
  (SndS.cons (SndX.set (Snd.bin (Snd.loc 44 rfl rfl rfl) (Snd.bin (Snd.loc 49 rfl rfl rfl) (Snd.loc 48 rfl rfl rfl) shl_ok) xor_ok) ⟨rfl, rfl⟩ fun _ _ => rfl)
  (SndS.cons (SndX.exp (Snd.callC hF (Snd.free 43 rfl rfl rfl rfl) (SndL.cons (Snd.loc 50 rfl rfl rfl) (SndL.cons (Snd.loc 45 rfl rfl rfl) (SndL.cons (Snd.loc 47 rfl rfl rfl) SndL.nil fun _ => rfl) fun _ => rfl) fun _ => rfl) (fun _ => rfl) (fun _ => rfl) fun _ => rfl) (fun env h => by unfold interactive; rw [h]; rfl) fun _ => rfl)
  (SndS.cons (SndX.exp (Snd.callC hF (Snd.free 43 rfl rfl rfl rfl) (SndL.cons (Snd.loc 49 rfl rfl rfl) (SndL.cons (Snd.loc 47 rfl rfl rfl) (SndL.cons (Snd.loc 46 rfl rfl rfl) SndL.nil fun _ => rfl) fun _ => rfl) fun _ => rfl) (fun _ => rfl) (fun _ => rfl) fun _ => rfl) (fun env h => by unfold interactive; rw [h]; rfl) fun _ => rfl)
  SndS.nil)))))))
def c__int2digits : Nat → List (Nat × Nat) → List VV → SE
  | 0 => fun _ _ _ => .none
  | n + 1 => gClo ([44, 45, 46].map .loc) (b__int2digits (c__int2digits n))
theorem c__int2digits_ok (w : W G) : ∀ n, CloOk G (n + 1) 0 (c__int2digits n)
  | 0 => CloOk.zero
  | n + 1 => cloF w.sp0 (names := ["x", "L", "R"]) (.cons ⟨rfl, rfl⟩ (.cons ⟨rfl, rfl⟩ (.cons ⟨rfl, rfl⟩ .nil))) (b__int2digits_ok (c__int2digits_ok w n)) (by decide) rfl rfl rfl w.nq0 fun _ _ _ _ _ _ xs h => by
    match xs, h with
    | [x0, x1, x2], _ => rfl
def m__int2digits : SS :=
  (sSeq (sSet (.cel 36) (eBin rMul (eLst (lCons (eInt 0) lNil)) (eBin iDiv (eBin iSub (eBin iAdd (eBits (eLoc 33)) (eCel 35)) (eInt 1)) (eCel 35))))
  (sSeq (sDef 0 0 [36, 43, 35] (.cel 43))
  (sSeq (sIf (tVal (eLoc 33)) (sSeq (sExp (eClo 0 (c__int2digits 12) (eCel 43) (lCons (eLoc 33) (lCons (eInt 0) (lCons (eCall gLen (lCons (eCel 36) lNil)) lNil)))))
  sNil) sNil)
  (sSeq (sRet (eCel 36))
  sNil))))
def g__int2digits : List VV → SE := gFun [.loc 33, .cel 35] [43, 36, 35] m__int2digits
theorem m__int2digits_ok (w : W G) : SndS G 13 (scopeAt pw 7) (bodyAt pw 7) m__int2digits := by
  obtain ⟨cc, hiq, P, htab0⟩ := w.iq
  exact (SndS.cons (SndX.set (Snd.bin (Snd.lst (SndL.cons Snd.int SndL.nil fun _ => rfl)) (Snd.bin (Snd.bin (Snd.bin (Snd.bits (Snd.loc 33 rfl rfl rfl) rfl fun _ => ⟨_, rfl⟩) (Snd.cel 35 rfl rfl rfl) add_ok) Snd.int sub_ok) (Snd.cel 35 rfl rfl rfl) div_ok) rmul_ok) ⟨rfl, rfl⟩ fun _ _ => rfl)
  (SndS.cons (SndX.defn hiq htab0 w.sp0 rfl rfl ⟨rfl, rfl⟩ rfl rfl fun _ => rfl)
  (SndS.cons (SndX.if (SndT.val (Snd.loc 33 rfl rfl rfl) fun _ _ => rfl) (SndS.cons (SndX.exp (Snd.callC (c__int2digits_ok w 12) (Snd.cel 43 rfl rfl rfl) (SndL.cons (Snd.loc 33 rfl rfl rfl) (SndL.cons Snd.int (SndL.cons (Snd.callB len_ok (SndL.cons (Snd.cel 36 rfl rfl rfl) SndL.nil fun _ => rfl) w.len boot_len (by decide) rfl rfl (fun _ => rfl) (fun _ => rfl) fun _ => rfl) SndL.nil fun _ => rfl) fun _ => rfl) fun _ => rfl) (fun _ => rfl) (fun _ => rfl) fun _ => rfl) (fun env h => by unfold interactive; rw [h]; rfl) fun _ => rfl)
  SndS.nil) SndS.nil)
  (SndS.cons (SndX.ret (Snd.cel 36 rfl rfl rfl))
  SndS.nil))))
theorem g__int2digits_ok (w : W G) : CallF G 14 "_int2digits" g__int2digits :=
  let ⟨_, h⟩ := w.f__int2digits; callF (ts := [.loc 33, .cel 35]) (order := [(43, 2), (36, 1), (35, 0)]) h (.cons ⟨rfl, rfl⟩ (.cons ⟨rfl, rfl⟩ .nil)) (m__int2digits_ok w) (fun _ => rfl) (by decide) (by decide) (cellin_of rfl) (by decide) rfl rfl rfl
def b__digits2int (F : List (Nat × Nat) → List VV → SE) : SS :=
  (sSeq (sIf (tCmp cEq (eBin iAdd (eLoc 45) (eInt 1)) (eLoc 46)) (sSeq (sRet (eIdx (eCel 42) (eLoc 45)))
  sNil) sNil)
  (sSeq (sSet (.loc 47) (eBin iShr (eBin iAdd (eLoc 45) (eLoc 46)) (eInt 1)))
  (sSeq (sSet (.loc 48) (eBin iMul (eBin iSub (eLoc 47) (eLoc 45)) (eCel 35)))
  (sSeq (sRet (eBin iAdd (eBin iShl (eClo 1 F (eCel 43) (lCons (eLoc 47) (lCons (eLoc 46) lNil))) (eLoc 48)) (eClo 1 F (eCel 43) (lCons (eLoc 45) (lCons (eLoc 47) lNil)))))
  sNil))))
theorem b__digits2int_ok {F : List (Nat × Nat) → List VV → SE} {d : Nat} (hF : CloOk G d 1 F) : SndS G d (innerAt pw 8 0 "_digits2int.<locals>.").scope (innerAt pw 8 0 "_digits2int.<locals>.").body (b__digits2int F) :=
  (SndS.cons (SndX.if (SndT.cmp (Snd.bin (Snd.loc 45 rfl rfl rfl) Snd.int add_ok) (Snd.loc 46 rfl rfl rfl) eq_ok rfl) (SndS.cons (SndX.ret (Snd.idx (Snd.free 42 rfl rfl rfl rfl) (Snd.loc 45 rfl rfl rfl) fun _ _ _ => rfl))
  SndS.nil) SndS.nil)
  (SndS.cons (SndX.set (Snd.bin (Snd.bin (Snd.loc 45 rfl rfl rfl) (Snd.loc 46 rfl rfl rfl) add_ok) Snd.int shr_ok) ⟨rfl, rfl⟩ fun _ _ => rfl)
  (SndS.cons (SndX.set (Snd.bin (Snd.bin (Snd.loc 47 rfl rfl rfl) (Snd.loc 45 rfl rfl rfl) sub_ok) (Snd.free 35 rfl rfl rfl rfl) mul_ok) ⟨rfl, rfl⟩ fun _ _ => rfl)
  (SndS.cons (SndX.ret (Snd.bin (Snd.bin (Snd.callC hF (Snd.free 43 rfl rfl rfl rfl) (SndL.cons (Snd.loc 47 rfl rfl rfl) (SndL.cons (Snd.loc 46 rfl rfl rfl) SndL.nil fun _ => rfl) fun _ => rfl) (fun _ => rfl) (fun _ => rfl) fun _ => rfl) (Snd.loc 48 rfl rfl rfl) shl_ok) (Snd.callC hF (Snd.free 43 rfl rfl rfl rfl) (SndL.cons (Snd.loc 45 rfl rfl rfl) (SndL.cons (Snd.loc 47 rfl rfl rfl) SndL.nil fun _ => rfl) fun _ => rfl) (fun _ => rfl) (fun _ => rfl) fun _ => rfl) add_ok))
  SndS.nil))))
def c__digits2int : Nat → List (Nat × Nat) → List VV → SE
  | 0 => fun _ _ _ => .none
  | n + 1 => gClo ([45, 46].map .loc) (b__digits2int (c__digits2int n))
theorem c__digits2int_ok (w : W G) : ∀ n, CloOk G (n + 1) 1 (c__digits2int n)
  | 0 => CloOk.zero
  | n + 1 => cloF w.sp1 (names := ["L", "R"]) (.cons ⟨rfl, rfl⟩ (.cons ⟨rfl, rfl⟩ .nil)) (b__digits2int_ok (c__digits2int_ok w n)) (by decide) rfl rfl rfl w.nq1 fun _ _ _ _ _ _ xs h => by
    match xs, h with
    | [x0, x1], _ => rfl
def m__digits2int : SS :=
  (sSeq (sDef 1 1 [42, 43, 35] (.cel 43))
  (sSeq (sRet (eIf (tLst (eCel 42)) (eClo 1 (c__digits2int 12) (eCel 43) (lCons (eInt 0) (lCons (eCall gLen (lCons (eCel 42) lNil)) lNil))) (eInt 0)))
  sNil))
def g__digits2int : List VV → SE := gFun [.cel 42, .cel 35] [43, 35, 42] m__digits2int
theorem m__digits2int_ok (w : W G) : SndS G 13 (scopeAt pw 8) (bodyAt pw 8) m__digits2int := by
  obtain ⟨cc, hdq, P, htab1⟩ := w.dq
  exact (SndS.cons (SndX.defn hdq htab1 w.sp1 rfl rfl ⟨rfl, rfl⟩ rfl rfl fun _ => rfl)
  (SndS.cons (SndX.ret (Snd.ifx (SndT.lst (Snd.cel 42 rfl rfl rfl) fun _ _ => rfl) (Snd.callC (c__digits2int_ok w 12) (Snd.cel 43 rfl rfl rfl) (SndL.cons Snd.int (SndL.cons (Snd.callB len_ok (SndL.cons (Snd.cel 42 rfl rfl rfl) SndL.nil fun _ => rfl) w.len boot_len (by decide) rfl rfl (fun _ => rfl) (fun _ => rfl) fun _ => rfl) SndL.nil fun _ => rfl) fun _ => rfl) (fun _ => rfl) (fun _ => rfl) fun _ => rfl) Snd.int))
  SndS.nil))
theorem g__digits2int_ok (w : W G) : CallF G 14 "_digits2int" g__digits2int :=
  let ⟨_, h⟩ := w.f__digits2int; callF (ts := [.cel 42, .cel 35]) (order := [(43, 2), (35, 1), (42, 0)]) h (.cons ⟨rfl, rfl⟩ (.cons ⟨rfl, rfl⟩ .nil)) (m__digits2int_ok w) (fun _ => rfl) (by decide) (by decide) (cellin_of rfl) (by decide) rfl rfl rfl
def m__divmod_pos : SS :=
  (sSeq (sSet (.loc 35) (eBits (eLoc 34)))
  (sSeq (sSet (.loc 36) (eCall g__int2digits (lCons (eLoc 33) (lCons (eLoc 35) lNil))))
  (sSeq (sSet (.loc 37) (eInt 0))
  (sSeq (sSet (.loc 38) (eLst lNil))
  (sSeq (sFor 64 (iRev (eLoc 36)) (setT (.loc 39)) (sSeq (sTup [.loc 40, .loc 37] (eCall g__div2n1n (lCons (eBin iAdd (eBin iShl (eLoc 37) (eLoc 35)) (eLoc 39)) (lCons (eLoc 34) (lCons (eLoc 35) lNil)))))
  (sSeq (sExp (eApp (eLoc 38) (eLoc 40)))
  sNil)))
  (sSeq (sExp (eRev (eLoc 38)))
  (sSeq (sSet (.loc 41) (eCall g__digits2int (lCons (eLoc 38) (lCons (eLoc 35) lNil))))
  (sSeq (sRet (eTup (lCons (eLoc 41) (lCons (eLoc 37) lNil))))
  sNil))))))))
def g__divmod_pos : List VV → SE := gFun [.loc 33, .loc 34] [] m__divmod_pos
theorem m__divmod_pos_ok (w : W G) : SndS G 14 (scopeAt pw 9) (bodyAt pw 9) m__divmod_pos := by
  exact (SndS.cons (SndX.set (Snd.bits (Snd.loc 34 rfl rfl rfl) rfl fun _ => ⟨_, rfl⟩) ⟨rfl, rfl⟩ fun _ _ => rfl)
  (SndS.cons (SndX.set (Snd.callG (CallF.le (by decide) (g__int2digits_ok w)) (SndL.cons (Snd.loc 33 rfl rfl rfl) (SndL.cons (Snd.loc 35 rfl rfl rfl) SndL.nil fun _ => rfl) fun _ => rfl) rfl rfl (fun _ => rfl) (fun _ => rfl) fun _ => rfl) ⟨rfl, rfl⟩ fun _ _ => rfl)
  (SndS.cons (SndX.set Snd.int ⟨rfl, rfl⟩ fun _ _ => rfl)
  (SndS.cons (SndX.set (Snd.lst SndL.nil) ⟨rfl, rfl⟩ fun _ _ => rfl)
  (SndS.cons (SndX.for 64 (SndI.rev (Snd.loc 36 rfl rfl rfl) w.reversed rfl rfl (fun _ => rfl) fun _ => rfl) ⟨rfl, rfl⟩ (SndS.cons (SndX.tup (Snd.callG (CallF.le (by decide) (g__div2n1n_ok w)) (SndL.cons (Snd.bin (Snd.bin (Snd.loc 37 rfl rfl rfl) (Snd.loc 35 rfl rfl rfl) shl_ok) (Snd.loc 39 rfl rfl rfl) add_ok) (SndL.cons (Snd.loc 34 rfl rfl rfl) (SndL.cons (Snd.loc 35 rfl rfl rfl) SndL.nil fun _ => rfl) fun _ => rfl) fun _ => rfl) rfl rfl (fun _ => rfl) (fun _ => rfl) fun _ => rfl) (.cons ⟨rfl, rfl⟩ (.cons ⟨rfl, rfl⟩ .nil)) (fun _ _ => rfl) fun _ _ => rfl)
  (SndS.cons (SndX.exp (Snd.app (Snd.loc 38 rfl rfl rfl) (Snd.loc 40 rfl rfl rfl) rfl (fun _ => ⟨_, rfl⟩) fun _ => rfl) (fun env h => by unfold interactive; rw [h]; rfl) fun _ => rfl)
  SndS.nil)) fun _ _ => rfl)
  (SndS.cons (SndX.exp (Snd.rev (Snd.loc 38 rfl rfl rfl) rfl fun _ => ⟨_, rfl⟩) (fun env h => by unfold interactive; rw [h]; rfl) fun _ => rfl)
  (SndS.cons (SndX.set (Snd.callG (CallF.le (by decide) (g__digits2int_ok w)) (SndL.cons (Snd.loc 38 rfl rfl rfl) (SndL.cons (Snd.loc 35 rfl rfl rfl) SndL.nil fun _ => rfl) fun _ => rfl) rfl rfl (fun _ => rfl) (fun _ => rfl) fun _ => rfl) ⟨rfl, rfl⟩ fun _ _ => rfl)
  (SndS.cons (SndX.ret (Snd.tup (SndL.cons (Snd.loc 41 rfl rfl rfl) (SndL.cons (Snd.loc 37 rfl rfl rfl) SndL.nil fun _ => rfl) fun _ => rfl)))
  SndS.nil))))))))
theorem g__divmod_pos_ok (w : W G) : CallF G 15 "_divmod_pos" g__divmod_pos :=
  let ⟨_, h⟩ := w.f__divmod_pos; callF (ts := [.loc 33, .loc 34]) (order := []) h (.cons ⟨rfl, rfl⟩ (.cons ⟨rfl, rfl⟩ .nil)) (m__divmod_pos_ok w) (fun _ => rfl) (by decide) (by decide) (cellin_of rfl) (by decide) rfl rfl rfl
def m_int_divmod : SS :=
  (sSeq (sIf (tCmp cEq (eLoc 34) (eInt 0)) sFail (sSeq (sIf (tCmp cLt (eLoc 34) (eInt 0)) sFail (sSeq (sIf (tCmp cLt (eLoc 33) (eInt 0)) sFail (sSeq (sRet (eCall g__divmod_pos (lCons (eLoc 33) (lCons (eLoc 34) lNil))))
  sNil))
  sNil))
  sNil))
  sNil)
def g_int_divmod : List VV → SE := gFun [.loc 33, .loc 34] [] m_int_divmod
theorem m_int_divmod_ok (w : W G) : SndS G 15 (scopeAt pw 10) (bodyAt pw 10) m_int_divmod := by
  exact (SndS.cons (SndX.if (SndT.cmp (Snd.loc 34 rfl rfl rfl) Snd.int eq_ok rfl) SndS.fail (SndS.cons (SndX.if (SndT.cmp (Snd.loc 34 rfl rfl rfl) Snd.int lt_ok rfl) SndS.fail (SndS.cons (SndX.if (SndT.cmp (Snd.loc 33 rfl rfl rfl) Snd.int lt_ok rfl) SndS.fail (SndS.cons (SndX.ret (Snd.callG (CallF.le (by decide) (g__divmod_pos_ok w)) (SndL.cons (Snd.loc 33 rfl rfl rfl) (SndL.cons (Snd.loc 34 rfl rfl rfl) SndL.nil fun _ => rfl) fun _ => rfl) rfl rfl (fun _ => rfl) (fun _ => rfl) fun _ => rfl))
  SndS.nil))
  SndS.nil))
  SndS.nil))
  SndS.nil)
theorem g_int_divmod_ok (w : W G) : CallF G 16 "int_divmod" g_int_divmod :=
  let ⟨_, h⟩ := w.f_int_divmod; callF (ts := [.loc 33, .loc 34]) (order := []) h (.cons ⟨rfl, rfl⟩ (.cons ⟨rfl, rfl⟩ .nil)) (m_int_divmod_ok w) (fun _ => rfl) (by decide) (by decide) (cellin_of rfl) (by decide) rfl rfl rfl
def m__law_ways : SS :=
  (sSeq (sSet (.loc 11) (eLst (lCons (eInt 1) lNil)))
  (sSeq (sFor 64 (iR2 (eInt 1) (eLoc 1)) (setT (.loc 12)) (sSeq (sSet (.loc 13) (eTup (lCons (eInt 0) (lCons (eInt 0) (lCons (eInt 0) (lCons (eInt 0) (lCons eDict0 lNil)))))))
  (sSeq (sFor 64 (iR1 (eLoc 12)) (setT (.loc 2)) (sSeq (sSet (.loc 13) (eCall g_add_func_stats (lCons (eLoc 13) (lCons (eTup (lCons (eBin iMul (eIdx (eLoc 11) (eLoc 2)) (eIdx (eLoc 11) (eBin iSub (eBin iSub (eLoc 12) (eInt 1)) (eLoc 2)))) (lCons (eInt 1) (lCons (eLoc 2) (lCons (eBin iSub (eBin iSub (eLoc 12) (eInt 1)) (eLoc 2)) (lCons eDict0 lNil)))))) lNil))))
  sNil))
  (sSeq (sIf (tCmp dNe (eTupSlc 1 4 (eLoc 13)) (eTup (lCons (eLoc 12) (lCons (eBin iDiv (eBin iMul (eLoc 12) (eBin iSub (eLoc 12) (eInt 1))) (eInt 2)) (lCons (eBin iDiv (eBin iMul (eLoc 12) (eBin iSub (eLoc 12) (eInt 1))) (eInt 2)) lNil))))) (sSeq (sRet eNone)
  sNil) sNil)
  (sSeq (sExp (eApp (eLoc 11) (eIdx (eLoc 13) (eInt 0))))
  sNil)))))
  (sSeq (sRet (eLoc 11))
  sNil)))
def g__law_ways : List VV → SE := gFun [.loc 1] [] m__law_ways
theorem m__law_ways_ok (w : W G) : SndS G 2 (scopeAt pw 12) (bodyAt pw 12) m__law_ways := by
  exact (SndS.cons (SndX.set (Snd.lst (SndL.cons Snd.int SndL.nil fun _ => rfl)) ⟨rfl, rfl⟩ fun _ _ => rfl)
  (SndS.cons (SndX.for 64 (SndI.r2 Snd.int (Snd.loc 1 rfl rfl rfl) w.range rfl rfl (fun _ => rfl) (fun _ => rfl) fun _ => rfl) ⟨rfl, rfl⟩ (SndS.cons (SndX.set (Snd.tup (SndL.cons Snd.int (SndL.cons Snd.int (SndL.cons Snd.int (SndL.cons Snd.int (SndL.cons Snd.dict0 SndL.nil fun _ => rfl) fun _ => rfl) fun _ => rfl) fun _ => rfl) fun _ => rfl)) ⟨rfl, rfl⟩ fun _ _ => rfl)
  (SndS.cons (SndX.for 64 (SndI.r1 (Snd.loc 12 rfl rfl rfl) w.range rfl rfl (fun _ => rfl) fun _ => rfl) ⟨rfl, rfl⟩ (SndS.cons (SndX.set (Snd.callG (CallF.le (by decide) (g_add_func_stats_ok w)) (SndL.cons (Snd.loc 13 rfl rfl rfl) (SndL.cons (Snd.tup (SndL.cons (Snd.bin (Snd.idx (Snd.loc 11 rfl rfl rfl) (Snd.loc 2 rfl rfl rfl) fun _ _ _ => rfl) (Snd.idx (Snd.loc 11 rfl rfl rfl) (Snd.bin (Snd.bin (Snd.loc 12 rfl rfl rfl) Snd.int sub_ok) (Snd.loc 2 rfl rfl rfl) sub_ok) fun _ _ _ => rfl) mul_ok) (SndL.cons Snd.int (SndL.cons (Snd.loc 2 rfl rfl rfl) (SndL.cons (Snd.bin (Snd.bin (Snd.loc 12 rfl rfl rfl) Snd.int sub_ok) (Snd.loc 2 rfl rfl rfl) sub_ok) (SndL.cons Snd.dict0 SndL.nil fun _ => rfl) fun _ => rfl) fun _ => rfl) fun _ => rfl) fun _ => rfl)) SndL.nil fun _ => rfl) fun _ => rfl) rfl rfl (fun _ => rfl) (fun _ => rfl) fun _ => rfl) ⟨rfl, rfl⟩ fun _ _ => rfl)
  SndS.nil) fun _ _ => rfl)
  (SndS.cons (SndX.if (SndT.cmp (Snd.tupSlc (Snd.loc 13 rfl rfl rfl) (by decide) (by decide) fun _ _ => ⟨_, rfl⟩) (Snd.tup (SndL.cons (Snd.loc 12 rfl rfl rfl) (SndL.cons (Snd.bin (Snd.bin (Snd.loc 12 rfl rfl rfl) (Snd.bin (Snd.loc 12 rfl rfl rfl) Snd.int sub_ok) mul_ok) Snd.int div_ok) (SndL.cons (Snd.bin (Snd.bin (Snd.loc 12 rfl rfl rfl) (Snd.bin (Snd.loc 12 rfl rfl rfl) Snd.int sub_ok) mul_ok) Snd.int div_ok) SndL.nil fun _ => rfl) fun _ => rfl) fun _ => rfl)) dne_ok rfl) (SndS.cons (SndX.ret Snd.none)
  SndS.nil) SndS.nil)
  (SndS.cons (SndX.exp (Snd.app (Snd.loc 11 rfl rfl rfl) (Snd.idx (Snd.loc 13 rfl rfl rfl) Snd.int fun _ _ _ => rfl) rfl (fun _ => ⟨_, rfl⟩) fun _ => rfl) (fun env h => by unfold interactive; rw [h]; rfl) fun _ => rfl)
  SndS.nil)))) fun _ _ => rfl)
  (SndS.cons (SndX.ret (Snd.loc 11 rfl rfl rfl))
  SndS.nil)))
theorem g__law_ways_ok (w : W G) : CallF G 3 "_law_ways" g__law_ways :=
  let ⟨_, h⟩ := w.f__law_ways; callF (ts := [.loc 1]) (order := []) h (.cons ⟨rfl, rfl⟩ .nil) (m__law_ways_ok w) (fun _ => rfl) (by decide) (by decide) (cellin_of rfl) (by decide) rfl rfl rfl
def m__law_crosswise : SS :=
  (sSeq (sTupR 14 15 (eTup (lCons (eComp (iLst (eLoc 7)) [] (.loc 11) .none (eCall gList (lCons (eLoc 11) lNil)) 64) (lCons (eInt 1) lNil))))
  (sSeq (sFor 64 (iR1 (eBin iSub (eCall gLen (lCons (eLoc 14) lNil)) (eInt 1))) (setT (.loc 4)) (sSeq (sIf (tCmp cEq (eIdx (eIdx (eLoc 14) (eLoc 4)) (eLoc 4)) (eInt 0)) (sSeq (sRet eNone)
  sNil) sNil)
  (sSeq (sFor 64 (iR2 (eBin iAdd (eLoc 4) (eInt 1)) (eCall gLen (lCons (eLoc 14) lNil))) (setT (.loc 16)) (sSeq (sFor 64 (iR2 (eBin iAdd (eLoc 4) (eInt 1)) (eCall gLen (lCons (eLoc 14) lNil))) (setT (.loc 17)) (sSeq (sTup [.loc 5, .loc 6] (eCall g_int_divmod (lCons (eBin iSub (eBin iMul (eIdx (eIdx (eLoc 14) (eLoc 16)) (eLoc 17)) (eIdx (eIdx (eLoc 14) (eLoc 4)) (eLoc 4))) (eBin iMul (eIdx (eIdx (eLoc 14) (eLoc 16)) (eLoc 4)) (eIdx (eIdx (eLoc 14) (eLoc 4)) (eLoc 17)))) (lCons (eLoc 15) lNil))))
  (sSeq (sIf (tCmp cNe (eLoc 6) (eInt 0)) (sSeq (sRet eNone)
  sNil) sNil)
  (sSeq (sSub (eLoc 5) (eIdx (eLoc 14) (eLoc 16)) (eLoc 17))
  sNil))))
  sNil))
  (sSeq (sSet (.loc 15) (eIdx (eIdx (eLoc 14) (eLoc 4)) (eLoc 4)))
  sNil))))
  (sSeq (sRet (eIdx (eIdx (eLoc 14) (eUn iNeg (eInt 1))) (eUn iNeg (eInt 1))))
  sNil)))
def g__law_crosswise : List VV → SE := gFun [.loc 7] [] m__law_crosswise
theorem m__law_crosswise_ok (w : W G) : SndS G 16 (scopeAt pw 13) (bodyAt pw 13) m__law_crosswise := by
  exact (SndS.cons (SndX.tupR (Snd.tup (SndL.cons (Snd.comp 64 ⟨rfl, ⟨rfl, rfl⟩, rfl, (fun i e => by cases e), fun _ _ => rfl, fun _ => rfl, by decide⟩ (SndI.lst (Snd.loc 7 rfl rfl rfl)) .none (Snd.callT list_ok (SndL.cons (Snd.loc 11 rfl rfl rfl) SndL.nil fun _ => rfl) w.list PySem.Pv.boot_list (by decide) rfl rfl (fun _ => rfl) (fun _ => rfl) fun _ => rfl) (fun _ _ => rfl)) (SndL.cons Snd.int SndL.nil fun _ => rfl) fun _ => rfl)) ⟨rfl, rfl⟩ ⟨rfl, rfl⟩ (fun _ _ => rfl) fun env h => by cases env; cases h; rfl)
  (SndS.cons (SndX.for 64 (SndI.r1 (Snd.bin (Snd.callB len_ok (SndL.cons (Snd.loc 14 rfl rfl rfl) SndL.nil fun _ => rfl) w.len boot_len (by decide) rfl rfl (fun _ => rfl) (fun _ => rfl) fun _ => rfl) Snd.int sub_ok) w.range rfl rfl (fun _ => rfl) fun _ => rfl) ⟨rfl, rfl⟩ (SndS.cons (SndX.if (SndT.cmp (Snd.idx (Snd.idx (Snd.loc 14 rfl rfl rfl) (Snd.loc 4 rfl rfl rfl) fun _ _ _ => rfl) (Snd.loc 4 rfl rfl rfl) fun _ _ _ => rfl) Snd.int eq_ok rfl) (SndS.cons (SndX.ret Snd.none)
  SndS.nil) SndS.nil)
  (SndS.cons (SndX.for 64 (SndI.r2 (Snd.bin (Snd.loc 4 rfl rfl rfl) Snd.int add_ok) (Snd.callB len_ok (SndL.cons (Snd.loc 14 rfl rfl rfl) SndL.nil fun _ => rfl) w.len boot_len (by decide) rfl rfl (fun _ => rfl) (fun _ => rfl) fun _ => rfl) w.range rfl rfl (fun _ => rfl) (fun _ => rfl) fun _ => rfl) ⟨rfl, rfl⟩ (SndS.cons (SndX.for 64 (SndI.r2 (Snd.bin (Snd.loc 4 rfl rfl rfl) Snd.int add_ok) (Snd.callB len_ok (SndL.cons (Snd.loc 14 rfl rfl rfl) SndL.nil fun _ => rfl) w.len boot_len (by decide) rfl rfl (fun _ => rfl) (fun _ => rfl) fun _ => rfl) w.range rfl rfl (fun _ => rfl) (fun _ => rfl) fun _ => rfl) ⟨rfl, rfl⟩ (SndS.cons (SndX.tup (Snd.callG (CallF.le (by decide) (g_int_divmod_ok w)) (SndL.cons (Snd.bin (Snd.bin (Snd.idx (Snd.idx (Snd.loc 14 rfl rfl rfl) (Snd.loc 16 rfl rfl rfl) fun _ _ _ => rfl) (Snd.loc 17 rfl rfl rfl) fun _ _ _ => rfl) (Snd.idx (Snd.idx (Snd.loc 14 rfl rfl rfl) (Snd.loc 4 rfl rfl rfl) fun _ _ _ => rfl) (Snd.loc 4 rfl rfl rfl) fun _ _ _ => rfl) mul_ok) (Snd.bin (Snd.idx (Snd.idx (Snd.loc 14 rfl rfl rfl) (Snd.loc 16 rfl rfl rfl) fun _ _ _ => rfl) (Snd.loc 4 rfl rfl rfl) fun _ _ _ => rfl) (Snd.idx (Snd.idx (Snd.loc 14 rfl rfl rfl) (Snd.loc 4 rfl rfl rfl) fun _ _ _ => rfl) (Snd.loc 17 rfl rfl rfl) fun _ _ _ => rfl) mul_ok) sub_ok) (SndL.cons (Snd.loc 15 rfl rfl rfl) SndL.nil fun _ => rfl) fun _ => rfl) rfl rfl (fun _ => rfl) (fun _ => rfl) fun _ => rfl) (.cons ⟨rfl, rfl⟩ (.cons ⟨rfl, rfl⟩ .nil)) (fun _ _ => rfl) fun _ _ => rfl)
  (SndS.cons (SndX.if (SndT.cmp (Snd.loc 6 rfl rfl rfl) Snd.int ne_ok rfl) (SndS.cons (SndX.ret Snd.none)
  SndS.nil) SndS.nil)
  (SndS.cons (SndX.sub (Snd.loc 5 rfl rfl rfl) (Snd.idx (Snd.loc 14 rfl rfl rfl) (Snd.loc 16 rfl rfl rfl) fun _ _ _ => rfl) (Snd.loc 17 rfl rfl rfl) fun _ _ => rfl)
  SndS.nil))) fun _ _ => rfl)
  SndS.nil) fun _ _ => rfl)
  (SndS.cons (SndX.set (Snd.idx (Snd.idx (Snd.loc 14 rfl rfl rfl) (Snd.loc 4 rfl rfl rfl) fun _ _ _ => rfl) (Snd.loc 4 rfl rfl rfl) fun _ _ _ => rfl) ⟨rfl, rfl⟩ fun _ _ => rfl)
  SndS.nil))) fun _ _ => rfl)
  (SndS.cons (SndX.ret (Snd.idx (Snd.idx (Snd.loc 14 rfl rfl rfl) (Snd.un Snd.int neg_ok) fun _ _ _ => rfl) (Snd.un Snd.int neg_ok) fun _ _ _ => rfl))
  SndS.nil)))
theorem g__law_crosswise_ok (w : W G) : CallF G 17 "_law_crosswise" g__law_crosswise :=
  let ⟨_, h⟩ := w.f__law_crosswise; callF (ts := [.loc 7]) (order := []) h (.cons ⟨rfl, rfl⟩ .nil) (m__law_crosswise_ok w) (fun _ => rfl) (by decide) (by decide) (cellin_of rfl) (by decide) rfl rfl rfl
def b__law_signed (F : List VV → SE) : SS :=
  (sSeq (sIf (tCmp dEq (eCel 14) (eLst lNil)) (sSeq (sRet (eInt 1))
  sNil) sNil)
  (sSeq (sRet (eCall gSum (lCons (eComp (iR1 (eCall gLen (lCons (eCel 14) lNil))) [14] (.cel 4) .none (eBin iMul (eBin iMul (eBin iSub (eInt 1) (eBin iMul (eInt 2) (eBin iMod (eCel 4) (eInt 2)))) (eIdx (eIdx (eCel 14) (eInt 0)) (eCel 4))) (eCall F (lCons (eComp (iLst (eSlc (eCel 14) (eInt 1) eNone eNone)) [4] (.loc 11) .none (eBin rAdd (eSlc (eLoc 11) eNone (eCel 4) eNone) (eSlc (eLoc 11) (eBin iAdd (eCel 4) (eInt 1)) eNone eNone)) 64) lNil))) 64) lNil)))
  sNil))
theorem b__law_signed_ok (w : W G) {F : List VV → SE} {d : Nat} (hF : CallF G d "_law_signed" F) : SndS G d (scopeAt pw 14) (bodyAt pw 14) (b__law_signed F) :=
  (SndS.cons (SndX.if (SndT.cmp (Snd.cel 14 rfl rfl rfl) (Snd.lst SndL.nil) deq_ok rfl) (SndS.cons (SndX.ret Snd.int)
  SndS.nil) SndS.nil)
  (SndS.cons (SndX.ret (Snd.callB sum_ok (SndL.cons (Snd.comp 64 ⟨rfl, ⟨rfl, rfl⟩, rfl, (fun i e => by cases e; decide), fun _ _ => rfl, fun _ => rfl, by decide⟩ (SndI.r1 (Snd.callB len_ok (SndL.cons (Snd.cel 14 rfl rfl rfl) SndL.nil fun _ => rfl) w.len boot_len (by decide) rfl rfl (fun _ => rfl) (fun _ => rfl) fun _ => rfl) w.range rfl rfl (fun _ => rfl) fun _ => rfl) .none (Snd.bin (Snd.bin (Snd.bin Snd.int (Snd.bin Snd.int (Snd.bin (Snd.cel 4 rfl rfl rfl) Snd.int mod_ok) mul_ok) sub_ok) (Snd.idx (Snd.idx (Snd.cel 14 rfl rfl rfl) Snd.int fun _ _ _ => rfl) (Snd.cel 4 rfl rfl rfl) fun _ _ _ => rfl) mul_ok) (Snd.callG hF (SndL.cons (Snd.comp 64 ⟨rfl, ⟨rfl, rfl⟩, rfl, (fun i e => by cases e), fun _ _ => rfl, fun _ => rfl, by decide⟩ (SndI.lst (Snd.slc (Snd.cel 14 rfl rfl rfl) (SndP.some Snd.int) SndP.none SndP.none fun _ _ => ⟨_, rfl⟩)) .none (Snd.bin (Snd.slc (Snd.loc 11 rfl rfl rfl) SndP.none (SndP.some (Snd.cel 4 rfl rfl rfl)) SndP.none fun _ _ => ⟨_, rfl⟩) (Snd.slc (Snd.loc 11 rfl rfl rfl) (SndP.some (Snd.bin (Snd.cel 4 rfl rfl rfl) Snd.int add_ok)) SndP.none SndP.none fun _ _ => ⟨_, rfl⟩) radd_ok) (fun _ _ => rfl)) SndL.nil fun _ => rfl) rfl rfl (fun _ => rfl) (fun _ => rfl) fun _ => rfl) mul_ok) (fun _ _ => rfl)) SndL.nil fun _ => rfl) w.sum PyProof.Rows.boot_sum (by decide) rfl rfl (fun _ => rfl) (fun _ => rfl) fun _ => rfl))
  SndS.nil))
def g__law_signed : Nat → List VV → SE
  | 0 => fun _ _ => .none
  | n + 1 => gFun [.cel 14] [14] (b__law_signed (g__law_signed n))
theorem g__law_signed_ok (w : W G) : ∀ n, CallF G (n + 1) "_law_signed" (g__law_signed n)
  | 0 => CallF.zero w.f__law_signed.choose_spec
  | n + 1 => callF (ts := [.cel 14]) (order := [(14, 0)]) w.f__law_signed.choose_spec (.cons ⟨rfl, rfl⟩ .nil) (b__law_signed_ok w (g__law_signed_ok w n)) (fun _ => rfl) (by decide) (by decide) (cellin_of rfl) (by decide) rfl rfl rfl
def l_0 (rs kf rf : Int) : SS :=
  (sTup [.cel 1, .cel 2] (eTup (lCons (eBin iAdd (eInt 2) (eSumMod rs (eInt 3))) (lCons (eFirstMod kf rf (eInt 3)) lNil))))
theorem l_0_ok (w : W G) {rs kf rf : Int} (hrs : (sumZ G.ns).fmod 3 = rs) (hrf : (hd0 G.ns).fmod kf = rf) (hkf : kf ≠ 0) (hns : G.ns.length < 99999) : SndX G 20 (scopeAt pw 15) (stAt (bodyAt pw 15) 0) (l_0 rs kf rf) := by
  exact (SndX.tup (Snd.tup (SndL.cons (Snd.bin Snd.int (Snd.sumMod (Snd.loc 0 rfl rfl rfl) hrs (by decide) w.sum rfl rfl (fun _ => rfl) fun _ => rfl) add_ok) (SndL.cons (Snd.firstMod (Snd.loc 0 rfl rfl rfl) Snd.int hrf hkf hns (fun _ => rfl) fun _ _ _ => rfl) SndL.nil fun _ => rfl) fun _ => rfl)) (.cons ⟨rfl, rfl⟩ (.cons ⟨rfl, rfl⟩ .nil)) (fun _ _ => rfl) fun env h => by cases env; cases h; rfl)
def l_1 (rs kf rf : Int) : SS :=
  (sSet (.cel 3) (eCall g__law_ways (lCons (eInt 12) lNil)))
theorem l_1_ok (w : W G) {rs kf rf : Int} (hrs : (sumZ G.ns).fmod 3 = rs) (hrf : (hd0 G.ns).fmod kf = rf) (hkf : kf ≠ 0) (hns : G.ns.length < 99999) : SndX G 20 (scopeAt pw 15) (stAt (bodyAt pw 15) 1) (l_1 rs kf rf) := by
  exact (SndX.set (Snd.callG (CallF.le (by decide) (g__law_ways_ok w)) (SndL.cons Snd.int SndL.nil fun _ => rfl) rfl rfl (fun _ => rfl) (fun _ => rfl) fun _ => rfl) ⟨rfl, rfl⟩ fun _ _ => rfl)
def l_2 (rs kf rf : Int) : SS :=
  (sIf (tOr (tCmp cIsNone (eCel 3) eNone) (tCmp dNe (eSlc (eCel 3) eNone (eInt 7) eNone) (eLst (lCons (eInt 1) (lCons (eInt 1) (lCons (eInt 2) (lCons (eInt 5) (lCons (eInt 14) (lCons (eInt 42) (lCons (eInt 132) lNil)))))))))) (sSeq (sRet (eBool false))
  sNil) sNil)
theorem l_2_ok (w : W G) {rs kf rf : Int} (hrs : (sumZ G.ns).fmod 3 = rs) (hrf : (hd0 G.ns).fmod kf = rf) (hkf : kf ≠ 0) (hns : G.ns.length < 99999) : SndX G 20 (scopeAt pw 15) (stAt (bodyAt pw 15) 2) (l_2 rs kf rf) := by
  exact (SndX.if (SndT.or (SndT.cmp (Snd.cel 3 rfl rfl rfl) Snd.none isNone_ok rfl) (SndT.cmp (Snd.slc (Snd.cel 3 rfl rfl rfl) SndP.none (SndP.some Snd.int) SndP.none fun _ _ => ⟨_, rfl⟩) (Snd.lst (SndL.cons Snd.int (SndL.cons Snd.int (SndL.cons Snd.int (SndL.cons Snd.int (SndL.cons Snd.int (SndL.cons Snd.int (SndL.cons Snd.int SndL.nil fun _ => rfl) fun _ => rfl) fun _ => rfl) fun _ => rfl) fun _ => rfl) fun _ => rfl) fun _ => rfl)) dne_ok rfl)) (SndS.cons (SndX.ret Snd.bool)
  SndS.nil) SndS.nil)
def l_3 (rs kf rf : Int) : SS :=
  (sFor 64 (iR2 (eInt 1) (eInt 12)) (setT (.loc 4)) (sSeq (sTup [.loc 5, .loc 6] (eCall g_int_divmod (lCons (eBin iMul (eIdx (eCel 3) (eBin iSub (eLoc 4) (eInt 1))) (eBin iSub (eBin iMul (eInt 4) (eLoc 4)) (eInt 2))) (lCons (eBin iAdd (eLoc 4) (eInt 1)) lNil))))
  (sSeq (sIf (tOr (tCmp cNe (eLoc 6) (eInt 0)) (tCmp cNe (eLoc 5) (eIdx (eCel 3) (eLoc 4)))) (sSeq (sRet (eBool false))
  sNil) sNil)
  sNil)))
theorem l_3_ok (w : W G) {rs kf rf : Int} (hrs : (sumZ G.ns).fmod 3 = rs) (hrf : (hd0 G.ns).fmod kf = rf) (hkf : kf ≠ 0) (hns : G.ns.length < 99999) : SndX G 20 (scopeAt pw 15) (stAt (bodyAt pw 15) 3) (l_3 rs kf rf) := by
  exact (SndX.for 64 (SndI.r2 Snd.int Snd.int w.range rfl rfl (fun _ => rfl) (fun _ => rfl) fun _ => rfl) ⟨rfl, rfl⟩ (SndS.cons (SndX.tup (Snd.callG (CallF.le (by decide) (g_int_divmod_ok w)) (SndL.cons (Snd.bin (Snd.idx (Snd.cel 3 rfl rfl rfl) (Snd.bin (Snd.loc 4 rfl rfl rfl) Snd.int sub_ok) fun _ _ _ => rfl) (Snd.bin (Snd.bin Snd.int (Snd.loc 4 rfl rfl rfl) mul_ok) Snd.int sub_ok) mul_ok) (SndL.cons (Snd.bin (Snd.loc 4 rfl rfl rfl) Snd.int add_ok) SndL.nil fun _ => rfl) fun _ => rfl) rfl rfl (fun _ => rfl) (fun _ => rfl) fun _ => rfl) (.cons ⟨rfl, rfl⟩ (.cons ⟨rfl, rfl⟩ .nil)) (fun _ _ => rfl) fun _ _ => rfl)
  (SndS.cons (SndX.if (SndT.or (SndT.cmp (Snd.loc 6 rfl rfl rfl) Snd.int ne_ok rfl) (SndT.cmp (Snd.loc 5 rfl rfl rfl) (Snd.idx (Snd.cel 3 rfl rfl rfl) (Snd.loc 4 rfl rfl rfl) fun _ _ _ => rfl) ne_ok rfl)) (SndS.cons (SndX.ret Snd.bool)
  SndS.nil) SndS.nil)
  SndS.nil)) fun _ _ => rfl)
def l_4 (rs kf rf : Int) : SS :=
  (sSet (.loc 7) (eComp (iR1 (eCel 1)) [2, 1, 3] (.cel 16) .none (eComp (iR1 (eCel 1)) [2, 16, 3] (.loc 4) .none (eIdx (eCel 3) (eBin iAdd (eBin iAdd (eCel 2) (eCel 16)) (eLoc 4))) 64) 64))
theorem l_4_ok (w : W G) {rs kf rf : Int} (hrs : (sumZ G.ns).fmod 3 = rs) (hrf : (hd0 G.ns).fmod kf = rf) (hkf : kf ≠ 0) (hns : G.ns.length < 99999) : SndX G 20 (scopeAt pw 15) (stAt (bodyAt pw 15) 4) (l_4 rs kf rf) := by
  exact (SndX.setComp 64 ⟨rfl, ⟨rfl, rfl⟩, rfl, (fun i e => by cases e; decide), fun _ _ => rfl, fun _ => rfl, by decide⟩ (SndI.r1 (Snd.cel 1 rfl rfl rfl) w.range rfl rfl (fun _ => rfl) fun _ => rfl) .none (Snd.comp 64 ⟨rfl, ⟨rfl, rfl⟩, rfl, (fun i e => by cases e), fun _ _ => rfl, fun _ => rfl, by decide⟩ (SndI.r1 (Snd.cel 1 rfl rfl rfl) w.range rfl rfl (fun _ => rfl) fun _ => rfl) .none (Snd.idx (Snd.cel 3 rfl rfl rfl) (Snd.bin (Snd.bin (Snd.cel 2 rfl rfl rfl) (Snd.cel 16 rfl rfl rfl) add_ok) (Snd.loc 4 rfl rfl rfl) add_ok) fun _ _ _ => rfl) (fun _ _ => rfl)) (fun _ _ => rfl) ⟨rfl, rfl⟩ fun env h => by cases env; cases h; rfl)
def l_5 (rs kf rf : Int) : SS :=
  (sSet (.loc 8) (eIdx (eLst (lCons (eInt 1) (lCons (eInt 1) (lCons (eBin iAdd (eCel 1) (eInt 1)) lNil)))) (eCel 2)))
theorem l_5_ok (w : W G) {rs kf rf : Int} (hrs : (sumZ G.ns).fmod 3 = rs) (hrf : (hd0 G.ns).fmod kf = rf) (hkf : kf ≠ 0) (hns : G.ns.length < 99999) : SndX G 20 (scopeAt pw 15) (stAt (bodyAt pw 15) 5) (l_5 rs kf rf) := by
  exact (SndX.set (Snd.idx (Snd.lst (SndL.cons Snd.int (SndL.cons Snd.int (SndL.cons (Snd.bin (Snd.cel 1 rfl rfl rfl) Snd.int add_ok) SndL.nil fun _ => rfl) fun _ => rfl) fun _ => rfl)) (Snd.cel 2 rfl rfl rfl) fun _ _ _ => rfl) ⟨rfl, rfl⟩ fun _ _ => rfl)
def l_6 (rs kf rf : Int) : SS :=
  (sIf (tOr (tCmp cNe (eCall g__law_crosswise (lCons (eLoc 7) lNil)) (eLoc 8)) (tCmp cNe (eCall (g__law_signed 6) (lCons (eLoc 7) lNil)) (eLoc 8))) (sSeq (sRet (eBool false))
  sNil) sNil)
theorem l_6_ok (w : W G) {rs kf rf : Int} (hrs : (sumZ G.ns).fmod 3 = rs) (hrf : (hd0 G.ns).fmod kf = rf) (hkf : kf ≠ 0) (hns : G.ns.length < 99999) : SndX G 20 (scopeAt pw 15) (stAt (bodyAt pw 15) 6) (l_6 rs kf rf) := by
  exact (SndX.if (SndT.or (SndT.cmp (Snd.callG (CallF.le (by decide) (g__law_crosswise_ok w)) (SndL.cons (Snd.loc 7 rfl rfl rfl) SndL.nil fun _ => rfl) rfl rfl (fun _ => rfl) (fun _ => rfl) fun _ => rfl) (Snd.loc 8 rfl rfl rfl) ne_ok rfl) (SndT.cmp (Snd.callG (CallF.le (by decide) (g__law_signed_ok w 6)) (SndL.cons (Snd.loc 7 rfl rfl rfl) SndL.nil fun _ => rfl) rfl rfl (fun _ => rfl) (fun _ => rfl) fun _ => rfl) (Snd.loc 8 rfl rfl rfl) ne_ok rfl)) (SndS.cons (SndX.ret Snd.bool)
  SndS.nil) SndS.nil)
def l_7 (rs kf rf : Int) : SS :=
  (sSet (.cel 9) (eComp (iLst (eLoc 7)) [] (.loc 11) .none (eCall gList (lCons (eLoc 11) lNil)) 64))
theorem l_7_ok (w : W G) {rs kf rf : Int} (hrs : (sumZ G.ns).fmod 3 = rs) (hrf : (hd0 G.ns).fmod kf = rf) (hkf : kf ≠ 0) (hns : G.ns.length < 99999) : SndX G 20 (scopeAt pw 15) (stAt (bodyAt pw 15) 7) (l_7 rs kf rf) := by
  exact (SndX.set (Snd.comp 64 ⟨rfl, ⟨rfl, rfl⟩, rfl, (fun i e => by cases e), fun _ _ => rfl, fun _ => rfl, by decide⟩ (SndI.lst (Snd.loc 7 rfl rfl rfl)) .none (Snd.callT list_ok (SndL.cons (Snd.loc 11 rfl rfl rfl) SndL.nil fun _ => rfl) w.list PySem.Pv.boot_list (by decide) rfl rfl (fun _ => rfl) (fun _ => rfl) fun _ => rfl) (fun _ _ => rfl)) ⟨rfl, rfl⟩ fun env h => by cases env; cases h; rfl)
def l_8 (rs kf rf : Int) : SS :=
  (sSub (eComp (iR1 (eCel 1)) [2, 9] (.loc 4) .none (eBin iAdd (eIdx (eIdx (eCel 9) (eUn iNeg (eInt 1))) (eLoc 4)) (eBin iMul (eBin iAdd (eInt 2) (eCel 2)) (eIdx (eIdx (eCel 9) (eInt 0)) (eLoc 4)))) 64) (eCel 9) (eUn iNeg (eInt 1)))
theorem l_8_ok (w : W G) {rs kf rf : Int} (hrs : (sumZ G.ns).fmod 3 = rs) (hrf : (hd0 G.ns).fmod kf = rf) (hkf : kf ≠ 0) (hns : G.ns.length < 99999) : SndX G 20 (scopeAt pw 15) (stAt (bodyAt pw 15) 8) (l_8 rs kf rf) := by
  exact (SndX.sub (Snd.comp 64 ⟨rfl, ⟨rfl, rfl⟩, rfl, (fun i e => by cases e), fun _ _ => rfl, fun _ => rfl, by decide⟩ (SndI.r1 (Snd.cel 1 rfl rfl rfl) w.range rfl rfl (fun _ => rfl) fun _ => rfl) .none (Snd.bin (Snd.idx (Snd.idx (Snd.cel 9 rfl rfl rfl) (Snd.un Snd.int neg_ok) fun _ _ _ => rfl) (Snd.loc 4 rfl rfl rfl) fun _ _ _ => rfl) (Snd.bin (Snd.bin Snd.int (Snd.cel 2 rfl rfl rfl) add_ok) (Snd.idx (Snd.idx (Snd.cel 9 rfl rfl rfl) Snd.int fun _ _ _ => rfl) (Snd.loc 4 rfl rfl rfl) fun _ _ _ => rfl) mul_ok) add_ok) (fun _ _ => rfl)) (Snd.cel 9 rfl rfl rfl) (Snd.un Snd.int neg_ok) fun _ _ => rfl)
def l_9 (rs kf rf : Int) : SS :=
  (sIf (tCmp cNe (eCall g__law_crosswise (lCons (eCel 9) lNil)) (eLoc 8)) (sSeq (sRet (eBool false))
  sNil) sNil)
theorem l_9_ok (w : W G) {rs kf rf : Int} (hrs : (sumZ G.ns).fmod 3 = rs) (hrf : (hd0 G.ns).fmod kf = rf) (hkf : kf ≠ 0) (hns : G.ns.length < 99999) : SndX G 20 (scopeAt pw 15) (stAt (bodyAt pw 15) 9) (l_9 rs kf rf) := by
  exact (SndX.if (SndT.cmp (Snd.callG (CallF.le (by decide) (g__law_crosswise_ok w)) (SndL.cons (Snd.cel 9 rfl rfl rfl) SndL.nil fun _ => rfl) rfl rfl (fun _ => rfl) (fun _ => rfl) fun _ => rfl) (Snd.loc 8 rfl rfl rfl) ne_ok rfl) (SndS.cons (SndX.ret Snd.bool)
  SndS.nil) SndS.nil)
def l_10 (rs kf rf : Int) : SS :=
  (sSet (.loc 10) (eComp (iR1 (eCel 1)) [2, 1, 3] (.cel 16) .none (eComp (iR1 (eCel 1)) [2, 16, 3] (.loc 4) .none (eBin iMul (eIdx (eCel 3) (eBin iAdd (eCel 16) (eLoc 4))) (eBin iAdd (eInt 2) (eCel 2))) 64) 64))
theorem l_10_ok (w : W G) {rs kf rf : Int} (hrs : (sumZ G.ns).fmod 3 = rs) (hrf : (hd0 G.ns).fmod kf = rf) (hkf : kf ≠ 0) (hns : G.ns.length < 99999) : SndX G 20 (scopeAt pw 15) (stAt (bodyAt pw 15) 10) (l_10 rs kf rf) := by
  exact (SndX.setComp 64 ⟨rfl, ⟨rfl, rfl⟩, rfl, (fun i e => by cases e; decide), fun _ _ => rfl, fun _ => rfl, by decide⟩ (SndI.r1 (Snd.cel 1 rfl rfl rfl) w.range rfl rfl (fun _ => rfl) fun _ => rfl) .none (Snd.comp 64 ⟨rfl, ⟨rfl, rfl⟩, rfl, (fun i e => by cases e), fun _ _ => rfl, fun _ => rfl, by decide⟩ (SndI.r1 (Snd.cel 1 rfl rfl rfl) w.range rfl rfl (fun _ => rfl) fun _ => rfl) .none (Snd.bin (Snd.idx (Snd.cel 3 rfl rfl rfl) (Snd.bin (Snd.cel 16 rfl rfl rfl) (Snd.loc 4 rfl rfl rfl) add_ok) fun _ _ _ => rfl) (Snd.bin Snd.int (Snd.cel 2 rfl rfl rfl) add_ok) mul_ok) (fun _ _ => rfl)) (fun _ _ => rfl) ⟨rfl, rfl⟩ fun env h => by cases env; cases h; rfl)
def l_11 (rs kf rf : Int) : SS :=
  (sRet (eBin cEq (eCall g__law_crosswise (lCons (eLoc 10) lNil)) (eBin iPow (eBin iAdd (eInt 2) (eCel 2)) (eCel 1))))
theorem l_11_ok (w : W G) {rs kf rf : Int} (hrs : (sumZ G.ns).fmod 3 = rs) (hrf : (hd0 G.ns).fmod kf = rf) (hkf : kf ≠ 0) (hns : G.ns.length < 99999) : SndX G 20 (scopeAt pw 15) (stAt (bodyAt pw 15) 11) (l_11 rs kf rf) := by
  exact (SndX.ret (Snd.cmp (Snd.callG (CallF.le (by decide) (g__law_crosswise_ok w)) (SndL.cons (Snd.loc 10 rfl rfl rfl) SndL.nil fun _ => rfl) rfl rfl (fun _ => rfl) (fun _ => rfl) fun _ => rfl) (Snd.bin (Snd.bin Snd.int (Snd.cel 2 rfl rfl rfl) add_ok) (Snd.cel 1 rfl rfl rfl) pow_ok) eq_ok rfl))
def m_law (rs kf rf : Int) : SS :=
  (sSeq (l_0 rs kf rf) (sSeq (l_1 rs kf rf) (sSeq (l_2 rs kf rf) (sSeq (l_3 rs kf rf) (sSeq (l_4 rs kf rf) (sSeq (l_5 rs kf rf) (sSeq (l_6 rs kf rf) (sSeq (l_7 rs kf rf) (sSeq (l_8 rs kf rf) (sSeq (l_9 rs kf rf) (sSeq (l_10 rs kf rf) (sSeq (l_11 rs kf rf) sNil))))))))))))
theorem m_law_ok (w : W G) {rs kf rf : Int} (hrs : (sumZ G.ns).fmod 3 = rs) (hrf : (hd0 G.ns).fmod kf = rf) (hkf : kf ≠ 0) (hns : G.ns.length < 99999) : SndS G 20 (scopeAt pw 15) (bodyAt pw 15) (m_law rs kf rf) :=
  (SndS.cons (l_0_ok w hrs hrf hkf hns) (SndS.cons (l_1_ok w hrs hrf hkf hns) (SndS.cons (l_2_ok w hrs hrf hkf hns) (SndS.cons (l_3_ok w hrs hrf hkf hns) (SndS.cons (l_4_ok w hrs hrf hkf hns) (SndS.cons (l_5_ok w hrs hrf hkf hns) (SndS.cons (l_6_ok w hrs hrf hkf hns) (SndS.cons (l_7_ok w hrs hrf hkf hns) (SndS.cons (l_8_ok w hrs hrf hkf hns) (SndS.cons (l_9_ok w hrs hrf hkf hns) (SndS.cons (l_10_ok w hrs hrf hkf hns) (SndS.cons (l_11_ok w hrs hrf hkf hns) SndS.nil))))))))))))
end
structure KF (K : Frag) (c1 c2 : Addr) : Prop where
  len : nsIn K mainGlobals "len" = some .none
  divmod : nsIn K mainGlobals "divmod" = some .none
  list : nsIn K mainGlobals "list" = some .none
  sum : nsIn K mainGlobals "sum" = some .none
  range : nsIn K mainGlobals "range" = some .none
  reversed : nsIn K mainGlobals "reversed" = some .none
  lim : ∃ t, nsIn K mainGlobals "_DIV_LIMIT" = some (some (.int 4000 t))
  f_add_callers : FnK K "add_callers" ["target", "source"] (paramsAt pw 2) (bodyAt pw 2) (scopeAt pw 2) (fun _ => True)
  f_add_func_stats : FnK K "add_func_stats" ["target", "source"] (paramsAt pw 1) (bodyAt pw 1) (scopeAt pw 1) (fun _ => True)
  f__div2n1n : FnK K "_div2n1n" ["a", "b", "n"] (paramsAt pw 5) (bodyAt pw 5) (scopeAt pw 5) (fun _ => True)
  f__int2digits : FnK K "_int2digits" ["a", "n"] (paramsAt pw 7) (bodyAt pw 7) (scopeAt pw 7) (fun v => v = .ref c1)
  f__digits2int : FnK K "_digits2int" ["digits", "n"] (paramsAt pw 8) (bodyAt pw 8) (scopeAt pw 8) (fun v => v = .ref c2)
  f__divmod_pos : FnK K "_divmod_pos" ["a", "b"] (paramsAt pw 9) (bodyAt pw 9) (scopeAt pw 9) (fun _ => True)
  f_int_divmod : FnK K "int_divmod" ["a", "b"] (paramsAt pw 10) (bodyAt pw 10) (scopeAt pw 10) (fun _ => True)
  f__law_ways : FnK K "_law_ways" ["many"] (paramsAt pw 12) (bodyAt pw 12) (scopeAt pw 12) (fun _ => True)
  f__law_crosswise : FnK K "_law_crosswise" ["table"] (paramsAt pw 13) (bodyAt pw 13) (scopeAt pw 13) (fun _ => True)
  f__law_signed : FnK K "_law_signed" ["rows"] (paramsAt pw 14) (bodyAt pw 14) (scopeAt pw 14) (fun _ => True)
def specs : Specs := fun t => match t with
  | 0 => some (innerAt pw 7 1 "_int2digits.<locals>.")
  | 1 => some (innerAt pw 8 0 "_digits2int.<locals>.")
  | _ => .none
theorem W_of {prog : Program} {w : World} {K : Frag} {p : Program} {loose : List Str} {mean : ExcName → Option Value} {mg mb : Str → Option Value} {ns : List Int} {c1 P1 c2 P2 : Addr} (kf : KF K c1 c2) : W (mkG prog w K p loose mean mg mb specs ns c1 P1 c2 P2) where
  len := kf.len
  divmod := kf.divmod
  list := kf.list
  sum := kf.sum
  range := kf.range
  reversed := kf.reversed
  lim := kf.lim
  iq := ⟨c1, .inl ⟨rfl, rfl, rfl⟩, P1, rfl⟩
  dq := ⟨c2, .inr ⟨rfl, rfl, rfl⟩, P2, rfl⟩
  sp0 := rfl
  sp1 := rfl
  nq0 := noCq (by decide +kernel) (by decide +kernel)
  nq1 := noCq (by decide +kernel) (by decide +kernel)
  f_add_callers := mkFn kf.f_add_callers (fun v _ cd ql h => absurd h (noCq (by decide +kernel) (by decide +kernel) cd ql))
  f_add_func_stats := mkFn kf.f_add_func_stats (fun v _ cd ql h => absurd h (noCq (by decide +kernel) (by decide +kernel) cd ql))
  f__div2n1n := mkFn kf.f__div2n1n (fun v _ cd ql h => absurd h (noCq (by decide +kernel) (by decide +kernel) cd ql))
  f__int2digits := mkFn kf.f__int2digits (fun v hv cd ql h => by
    rcases h with ⟨_, rfl, rfl⟩ | ⟨h, _⟩
    · exact ⟨hv, rfl⟩
    · exact absurd h (by decide +kernel))
  f__digits2int := mkFn kf.f__digits2int (fun v hv cd ql h => by
    rcases h with ⟨h, _⟩ | ⟨_, rfl, rfl⟩
    · exact absurd h (by decide +kernel)
    · exact ⟨hv, rfl⟩)
  f__divmod_pos := mkFn kf.f__divmod_pos (fun v _ cd ql h => absurd h (noCq (by decide +kernel) (by decide +kernel) cd ql))
  f_int_divmod := mkFn kf.f_int_divmod (fun v _ cd ql h => absurd h (noCq (by decide +kernel) (by decide +kernel) cd ql))
  f__law_ways := mkFn kf.f__law_ways (fun v _ cd ql h => absurd h (noCq (by decide +kernel) (by decide +kernel) cd ql))
  f__law_crosswise := mkFn kf.f__law_crosswise (fun v _ cd ql h => absurd h (noCq (by decide +kernel) (by decide +kernel) cd ql))
  f__law_signed := mkFn kf.f__law_signed (fun v _ cd ql h => absurd h (noCq (by decide +kernel) (by decide +kernel) cd ql))
def hp0 : VH := (push0 (push0 (push0 (push0 (push0 (push0 ⟨0, .nil⟩ .tabE) .tabE) .cellE) .cellE) .cellE) .cellE)
def st0 : St := ⟨hp0, [(0, .scr)], [(9, 2), (3, 3), (2, 4), (1, 5)], .none⟩
end Mine
open PySem PySem.W PyProof.Rows PySem.Calls
set_option Elab.async false
set_option linter.unusedVariables false
set_option maxRecDepth 100000
set_option maxHeartbeats 4000000
namespace Mine
theorem k_0_0 : okT (m_law 0 3 0 st0) = true := by decide +kernel
theorem k_0_1 : okT (m_law 0 3 1 st0) = true := by decide +kernel
theorem k_0_2 : okT (m_law 0 3 2 st0) = true := by decide +kernel
theorem k_1_0 : okT (m_law 1 3 0 st0) = true := by decide +kernel
theorem k_1_1 : okT (m_law 1 3 1 st0) = true := by decide +kernel
theorem k_1_2 : okT (m_law 1 3 2 st0) = true := by decide +kernel
theorem k_2_0 : okT (m_law 2 3 0 st0) = true := by decide +kernel
theorem k_2_1 : okT (m_law 2 3 1 st0) = true := by decide +kernel
theorem k_2_2 : okT (m_law 2 3 2 st0) = true := by decide +kernel
theorem all_0 (j : Int) (h1 : 0 ≤ j) (h2 : j < 3) : okT (m_law 0 3 j st0) = true := by
  have h : j = 0 ∨ j = 1 ∨ j = 2 := by omega
  rcases h with rfl | rfl | rfl
  · exact k_0_0
  · exact k_0_1
  · exact k_0_2
theorem all_1 (j : Int) (h1 : 0 ≤ j) (h2 : j < 3) : okT (m_law 1 3 j st0) = true := by
  have h : j = 0 ∨ j = 1 ∨ j = 2 := by omega
  rcases h with rfl | rfl | rfl
  · exact k_1_0
  · exact k_1_1
  · exact k_1_2
theorem all_2 (j : Int) (h1 : 0 ≤ j) (h2 : j < 3) : okT (m_law 2 3 j st0) = true := by
  have h : j = 0 ∨ j = 1 ∨ j = 2 := by omega
  rcases h with rfl | rfl | rfl
  · exact k_2_0
  · exact k_2_1
  · exact k_2_2
end Mine
open PySem PySem.W PyProof.Rows PySem.Calls
set_option Elab.async false
set_option linter.unusedVariables false
set_option maxRecDepth 100000
set_option maxHeartbeats 4000000
namespace Mine
theorem law_run {prog : Program} {w : World} {K : Frag} {p : Program} {loose : List Str} {mean : ExcName → Option Value} {mg mb : Str → Option Value} {ns : List Int} {c1 P1 c2 P2 : Addr} (kf : KF K c1 c2) {h₀ h₁ : Heap} {L fa q : Addr} {cd : Value} {qv : List Value} {s₀ : Shared} {tk : Nat} {m : Str → Option Value} {o4 o3 o2 o1 : Obj} (B : Below callerA h₀ [] h₀) (X : K.In h₀) (T : Top p loose mean mg mb h₀) (sm : ∃ o, h₀.get? sysModules = some o)
    (isl : h₀.IsList q qv.toArray) (isi : IntsAre qv ns) (hn : ns.length ≤ 63) (ch1 : CodeHd h₀ c1 P1) (ch2 : CodeHd h₀ c2 P2) (F : Fr h₀ L h₁ m) (hm : m "script" = some (.ref q))
    (N : News h₀ L h₁ [(L + 1 + 1 + 1 + 1, o4), (L + 1 + 1 + 1, o3), (L + 1 + 1, o2), (L + 1, o1), (P2, tabObj #[]), (P1, tabObj #[])]) (d4 : ∃ x, o4.data = .cell x) (d3 : ∃ x, o3.data = .cell x) (d2 : ∃ x, o2.data = .cell x) (d1 : ∃ x, o1.data = .cell x) (hP : P2 < L ∧ P1 < L) (hne : P1 ≠ P2) {Q : Flow → Shared → Prop} {E : Value → Shared → Prop}
    (hQ : ∀ s' m', Fr h₀ L s'.heap m' → s'.gens = s₀.gens → s'.os = s₀.os → GrownAt P1 s'.heap → GrownAt P2 s'.heap → Q (.ret (.bool true)) s') :
    wpAny (model prog w) (callerA.deeper (envOfC "law" (scopeAt pw 15) L fa cd)) (execs (bodyAt pw 15) (envOfC "law" (scopeAt pw 15) L fa cd)) Q E { s₀ with heap := h₁, toks := tk } := by
  let G := mkG prog w K p loose mean mg mb specs ns c1 P1 c2 P2
  let c : Cx := { A := callerA.deeper (envOfC "law" (scopeAt pw 15) L fa cd), A₀ := callerA, base := h₀, h₀ := h₀, outer := [], L := L, fenv := envOfC "law" (scopeAt pw 15) L fa cd, q := q, qv := qv, s₀ := s₀ }
  have ok : c.Ok G 20 := ⟨B, X, T, rfl, rfl, rfl, rfl, rfl, rfl, rfl, by show callerA.depth + 1 + 20 < recursionLimit; decide, by show callerA.units + 3 + 8 * 20 + 64 < cLine; decide, isl, isi, fun r hr => by
    rcases List.mem_cons.mp hr with rfl | hr
    · exact ch1
    · rw [List.mem_singleton.mp hr]; exact ch2, sm, fun cd' ql h => absurd h (noCq (show List.lookup (nm 36) (scopeAt pw 15).names ≠ some .cell by decide +kernel) (show List.lookup (nm 42) (scopeAt pw 15).names ≠ some .cell by decide +kernel) cd' ql)⟩
  let N0 : List (Addr × Obj) := [(P1, tabObj #[]), (P2, tabObj #[]), (L + 1 + 1 + 1 + 1, o4), (L + 1 + 1 + 1, o3), (L + 1 + 1, o2), (L + 1, o1)]
  have nd : ∀ (P1 P2 L : Nat), P1 < L → P2 < L → P1 ≠ P2 → [P1, P2, L + 1 + 1 + 1 + 1, L + 1 + 1 + 1, L + 1 + 1, L + 1].Nodup := by
    intro P1 P2 L h1 h2 h3
    simp only [List.nodup_cons, List.mem_cons, List.not_mem_nil, or_false, not_or, not_false_eq_true, List.nodup_nil, and_true]
    omega
  have hok : HOk G.S c.q (adr N0) N0 hp0 := by
    have z := HOk.zero (S := G.S) (q := c.q) (ρ := adr N0)
    have a1 := z.push (o := .tabE) (a := P1) (ob := tabObj #[]) (by decide) rfl
    have a2 := a1.push (o := .tabE) (a := P2) (ob := tabObj #[]) (by decide) rfl
    have a3 := a2.push (o := .cellE) (a := L + 1 + 1 + 1 + 1) (ob := o4) (by decide) d4
    have a4 := a3.push (o := .cellE) (a := L + 1 + 1 + 1) (ob := o3) (by decide) d3
    have a5 := a4.push (o := .cellE) (a := L + 1 + 1) (ob := o2) (by decide) d2
    have a6 := a5.push (o := .cellE) (a := L + 1) (ob := o1) (by decide) d1
    exact a6
  have R : Rel G c c.fenv st0 m N0 [] { s₀ with heap := h₁, toks := tk } := by
    refine ⟨F, fun p hp => N p ?_, by rw [show adr N0 ++ adr [] = adr N0 from List.append_nil _]; exact nd P1 P2 L hP.2 hP.1 hne, hok, ⟨_, rfl⟩, fun i v e => ?_, ⟨rfl, rfl, rfl, rfl, fun i k e => ?_⟩, rfl⟩
    · rw [List.append_nil] at hp
      simp only [N0, List.mem_cons, List.not_mem_nil, or_false] at hp ⊢
      rcases hp with rfl | rfl | rfl | rfl | rfl | rfl <;> simp
    · have e' : lk [(0, VV.scr)] i = some v := e
      rw [lk_cons] at e'
      by_cases hi : 0 = i
      · rw [if_pos hi] at e'; cases e'; subst hi; exact ⟨by decide, _, hm, rfl⟩
      · rw [if_neg hi] at e'; cases e'
    · have e' : lk [(9, 2), (3, 3), (2, 4), (1, 5)] i = some k := e
      simp only [lk_cons] at e'

      by_cases h0 : 9 = i
      · rw [if_pos h0] at e'; cases e'; subst h0; exact ⟨_, rfl, rfl⟩
      rw [if_neg h0] at e'
      by_cases h1 : 3 = i
      · rw [if_pos h1] at e'; cases e'; subst h1; exact ⟨_, rfl, rfl⟩
      rw [if_neg h1] at e'
      by_cases h2 : 2 = i
      · rw [if_pos h2] at e'; cases e'; subst h2; exact ⟨_, rfl, rfl⟩
      rw [if_neg h2] at e'
      by_cases h3 : 1 = i
      · rw [if_pos h3] at e'; cases e'; subst h3; exact ⟨_, rfl, rfl⟩
      rw [if_neg h3] at e'
      cases e'
  have w' : W G := W_of kf
  have r1 : 0 ≤ (sumZ ns).fmod 3 := Int.fmod_nonneg_of_pos _ (by decide)
  have r2 : (sumZ ns).fmod 3 < 3 := Int.fmod_lt_of_pos _ (by decide)
  have run : ∀ (rs kf' : Int), (sumZ ns).fmod 3 = rs → 0 < kf' → (∀ j, 0 ≤ j → j < kf' → okT (m_law rs kf' j st0) = true) → wpAny (model prog w) c.A (execs (bodyAt pw 15) c.fenv) Q E { s₀ with heap := h₁, toks := tk } := by
    intro rs kf' h1 h2 h3
    obtain ⟨σ', e, t1, t2⟩ := okT_is (h3 ((hd0 ns).fmod kf') (Int.fmod_nonneg_of_pos _ h2) (Int.fmod_lt_of_pos _ h2))
    refine m_law_ok w' (rs := rs) (kf := kf') h1 rfl (by omega) (by show ns.length < 99999; omega) c st0 σ' _ m N0 [] _ Q E ok rfl R e fun m' N' s' x R' p' hx => ?_
    obtain ⟨y, rfl, hy⟩ := hx
    cases hy
    have sh := R'.sh
    exact hQ s' m' R'.fr (by rw [sh]) (by rw [sh]) (grown_of (N := N0) (i := 0) R'.hp R'.news p' rfl t1) (grown_of (N := N0) (i := 1) R'.hp R'.news p' rfl t2)
  have h : (sumZ ns).fmod 3 = 0 ∨ (sumZ ns).fmod 3 = 1 ∨ (sumZ ns).fmod 3 = 2 := by omega
  rcases h with h | h | h
  · exact run 0 3 h (by decide) all_0
  · exact run 1 3 h (by decide) all_1
  · exact run 2 3 h (by decide) all_2
end Mine
end
open PySem PySem.W PyProof.Rows
set_option Elab.async false
set_option maxRecDepth 100000 in
set_option maxHeartbeats 8000000 in
theorem PySem.Challenge.cw_ic0007_01_holds : PySem.Challenge.rw_ic0007_01.Holds := by
  (w_on; o_law; k_head; (case hw => w_witness2); w_strict (k_go0; (all_goals try k_fold); (rename Below callerA _ _ _ => kB); (rename Frag.In _ _ => kX); (rename Top topProg _ _ _ _ _ => kT); (rename Top _ (looseW _ _) _ _ _ _ => kT0); (rename Fr _ _ _ _ => kF); (rename News _ _ _ _ => kN); (rename IntsAre _ _ => kI); (rename TabsAt _ _ => kTabs); (rename Heap.IsList (ghostOf _ _) _ _ => kL); (rename Shared.gens _ = #[] => kG); (refine Mine.law_run (c1 := 48) (P1 := 44) (c2 := 55) (P2 := 51) ?kf kB kX kT ?sm kL kI ?hn (by assumption) (by assumption) kF ?hm kN ⟨_, by assumption⟩ ⟨_, by assumption⟩ ⟨_, by assumption⟩ ⟨_, by assumption⟩ (by assumption) (by decide) ?hQ); (case kf => exact ⟨by rfl, by rfl, by rfl, by rfl, by rfl, by rfl, ⟨_, by rfl⟩, ⟨_, _, _, _, _, _, _, _, _, by rfl, by rfl, by rfl, by rfl, trivial, Mine.lenCase2 (fun x0 x1 => rfl)⟩, ⟨_, _, _, _, _, _, _, _, _, by rfl, by rfl, by rfl, by rfl, trivial, Mine.lenCase2 (fun x0 x1 => rfl)⟩, ⟨_, _, _, _, _, _, _, _, _, by rfl, by rfl, by rfl, by rfl, trivial, Mine.lenCase3 (fun x0 x1 x2 => rfl)⟩, ⟨_, _, _, _, _, _, _, _, _, by rfl, by rfl, by rfl, by rfl, rfl, Mine.lenCase2 (fun x0 x1 => rfl)⟩, ⟨_, _, _, _, _, _, _, _, _, by rfl, by rfl, by rfl, by rfl, rfl, Mine.lenCase2 (fun x0 x1 => rfl)⟩, ⟨_, _, _, _, _, _, _, _, _, by rfl, by rfl, by rfl, by rfl, trivial, Mine.lenCase2 (fun x0 x1 => rfl)⟩, ⟨_, _, _, _, _, _, _, _, _, by rfl, by rfl, by rfl, by rfl, trivial, Mine.lenCase2 (fun x0 x1 => rfl)⟩, ⟨_, _, _, _, _, _, _, _, _, by rfl, by rfl, by rfl, by rfl, trivial, Mine.lenCase1 (fun x0 => rfl)⟩, ⟨_, _, _, _, _, _, _, _, _, by rfl, by rfl, by rfl, by rfl, trivial, Mine.lenCase1 (fun x0 => rfl)⟩, ⟨_, _, _, _, _, _, _, _, _, by rfl, by rfl, by rfl, by rfl, trivial, Mine.lenCase1 (fun x0 => rfl)⟩⟩); (case sm => exact (let ⟨_, x, _⟩ := (kT0.seer rfl).mods; let ⟨o, _, _, e, _⟩ := ghost_ns kTabs x; ⟨o, e⟩)); (case hn => omega); (case hm => rfl); (case hQ => exact fun s' m' F' g' os' G1 G2 => ⟨goodW_bool F' (g'.trans kG) (fun _ => rfl) (by first | kc_post | wrow_post) os', G2, G1, trivial⟩)))

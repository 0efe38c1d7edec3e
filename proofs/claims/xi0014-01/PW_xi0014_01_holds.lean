import PyProof.Rows.All
import Wide.All
import OpenK.AllK
import Wide.FinOn
import Lean
import PySem.Challenge.RW_xi0014_01
set_option Elab.async false
set_option maxHeartbeats 4000000
set_option autoImplicit false
set_option linter.unusedVariables false
set_option linter.unusedSimpArgs false
namespace Mine
section
open PySem PySem.W PyProof.Rows PySem.Calls

theorem ns_lt {a i : Nat} (h : i < a) : a + 1 - (i + 1) < a + 1 - i := by
  rw [Nat.add_sub_add_right, Nat.succ_sub (Nat.le_of_lt h)]; exact Nat.lt_succ_self _
theorem ns_lt' {a i : Nat} (h : i + 1 ≤ a) : a - (i + 1) < a - i := Nat.sub_lt_sub_left h (Nat.lt_succ_self i)
theorem ns_pred {a j : Nat} (h : j < a) : a - j = a - j - 1 + 1 := (Nat.sub_add_cancel (Nat.sub_pos_of_lt h)).symm
theorem ns_next {a j m : Nat} (h : a - j = m + 1) : a - (j + 1) = m := by rw [← Nat.sub_sub, h]; rfl
theorem ns_back {a j : Nat} (h : j < a) : j = a - 1 - (a - j - 1) := by rw [Nat.sub_right_comm a j 1, Nat.sub_sub_self (Nat.le_sub_one_of_lt h)]
theorem ns_split {L m R : Nat} (h1 : L ≤ m) (h2 : m ≤ R) : R - L = (m - L) + (R - m) := by rw [Nat.add_comm]; exact (Nat.sub_add_sub_cancel h2 h1).symm
theorem ns_half1 {L R m P : Nat} (h : R - L ≤ P + P) (hm : (L + R) / 2 = m) : m - L ≤ P := by rw [Nat.sub_le_iff_le_add] at *; omega
theorem ns_half2 {L R m P : Nat} (h : R - L ≤ P + P) (hm : (L + R) / 2 = m) : R - m ≤ P := by rw [Nat.sub_le_iff_le_add] at *; omega
theorem ns_succ {m i : Nat} (h : i < m) : m - i = (m - 1 - i).succ := by rw [Nat.sub_right_comm, Nat.succ_eq_add_one, Nat.sub_add_cancel (Nat.sub_pos_of_lt h)]
theorem ns_two {h : Nat} (hh : 0 < h) : 2 * h - 1 = h - 1 + h := by rw [Nat.two_mul, Nat.sub_add_comm hh]
theorem ns_cast {s j : Nat} : ((s : Int) - 1 - j).toNat = s - 1 - j := by
  rw [Int.sub_sub, Nat.sub_sub]; exact Int.toNat_sub s (1 + j)
theorem ns_castv {X : Nat} {v : Int} (h : 0 ≤ v) : ((X : Int) - v).toNat = X - v.toNat := by
  obtain ⟨k, rfl⟩ := Int.eq_ofNat_of_zero_le h
  exact Int.toNat_sub X k
theorem ns_min {t : Nat} {x : Int} (h : 0 ≤ x) (h1 : x ≤ t) : ((min (t - x.toNat) t : Nat) : Int) = t - x := by
  obtain ⟨k, rfl⟩ := Int.eq_ofNat_of_zero_le h
  rw [Nat.min_eq_left (Nat.sub_le _ _)]
  exact Int.natCast_sub (Int.ofNat_le.mp h1)
theorem ns_neg {r b : Int} (hr : r < 0) (hb : 0 < b) : (-(r + b)).toNat < (-r).toNat := by
  refine (Int.toNat_lt_toNat (Int.neg_pos_of_neg hr)).mpr (Int.neg_lt_neg (Int.lt_add_of_pos_right r hb))

/-- scalar answers -/
inductive SV where
  | none | bool (b : Bool) | int (i : Int) | str (x : Str)
  deriving DecidableEq

inductive SRep : Value → SV → Prop
  | none : SRep .none .none
  | bool (b) : SRep (.bool b) (.bool b)
  | int (i t) : SRep (.int i t) (.int i)
  | str (x t) : SRep (.str x t) (.str x)

theorem SRep.intC {v : Value} {i : Int} {P : Value → Prop} (h : SRep v (.int i)) (k : ∀ t, P (.int i t)) : P v := by cases h; exact k _
theorem SRep.strC {v : Value} {x : Str} {P : Value → Prop} (h : SRep v (.str x)) (k : ∀ t, P (.str x t)) : P v := by cases h; exact k _
theorem SRep.boolC {v : Value} {b : Bool} {P : Value → Prop} (h : SRep v (.bool b)) (k : P (.bool b)) : P v := by cases h; exact k
theorem SRep.int2 {v w : Value} {i j : Int} {P : Value → Value → Prop} (h : SRep v (.int i)) (h' : SRep w (.int j)) (k : ∀ t u, P (.int i t) (.int j u)) : P v w := by cases h; cases h'; exact k _ _
theorem SRep.str2 {v w : Value} {x y : Str} {P : Value → Value → Prop} (h : SRep v (.str x)) (h' : SRep w (.str y)) (k : ∀ t u, P (.str x t) (.str y u)) : P v w := by cases h; cases h'; exact k _ _

inductive Reps : List Value → List SV → Prop
  | nil : Reps [] []
  | cons {v a vs as} : SRep v a → Reps vs as → Reps (v :: vs) (a :: as)

inductive Tag where
  | tmp | shr | own
inductive AV where
  | sc (v : SV) | list (t : Tag) (vs : List SV) | tup (vs : List SV) | fn (k : Nat) | ty (t : String) | rng (n : Int) | rev (t : Tag) (vs : List SV) | obj (a : Addr)

theorem Reps.length {vs as} (h : Reps vs as) : vs.length = as.length := by
  induction h with
  | nil => rfl
  | cons _ _ ih => simp [ih]
theorem Reps.append {vs as ws bs} (h : Reps vs as) (h' : Reps ws bs) : Reps (vs ++ ws) (as ++ bs) := by
  induction h with
  | nil => exact h'
  | cons a _ ih => exact .cons a ih
theorem Reps.get {vs as} (h : Reps vs as) : ∀ (i : Nat) (a : SV), as[i]? = some a → ∃ v, vs[i]? = some v ∧ SRep v a := by
  induction h with
  | nil => intro i a e; cases e
  | cons hv _ ih =>
    intro i a e
    cases i with
    | zero => simp at e; subst e; exact ⟨_, rfl, hv⟩
    | succ i => simpa using ih i a (by simpa using e)
theorem Reps.get' {vs as} (h : Reps vs as) : ∀ (i : Nat) (v : Value), vs[i]? = some v → ∃ a, as[i]? = some a ∧ SRep v a := by
  induction h with
  | nil => intro i a e; cases e
  | cons hv _ ih =>
    intro i a e
    cases i with
    | zero => simp at e; subst e; exact ⟨_, rfl, hv⟩
    | succ i => simpa using ih i a (by simpa using e)

noncomputable def LRep (h : Heap) (l : Addr) (vs : List SV) : Prop := ∃ items : List Value, h.PlainList l items.toArray ∧ Reps items vs
noncomputable def TRep (h : Heap) (l : Addr) (vs : List SV) : Prop := ∃ items : List Value, h.IsTuple l items.toArray ∧ Reps items vs

theorem IsList.at1 {h h' : Heap} {l : Addr} {it : Array Value} (x : h.IsList l it) (k : ∀ o, h.get? l = some o → h'.get? l = some o) : h'.IsList l it :=
  let ⟨o, ho, r⟩ := x; ⟨o, k o ho, r⟩
theorem IsTuple.at1 {h h' : Heap} {l : Addr} {it : Array Value} (x : h.IsTuple l it) (k : ∀ o, h.get? l = some o → h'.get? l = some o) : h'.IsTuple l it :=
  let ⟨o, ho, r⟩ := x; ⟨o, k o ho, r⟩
theorem LRep.at1 {h h' : Heap} {l : Addr} {vs} (x : LRep h l vs) (k : ∀ o, h.get? l = some o → h'.get? l = some o) : LRep h' l vs :=
  let ⟨it, a, b⟩ := x; ⟨it, a.at k, b⟩
theorem TRep.at1 {h h' : Heap} {l : Addr} {vs} (x : TRep h l vs) (k : ∀ o, h.get? l = some o → h'.get? l = some o) : TRep h' l vs :=
  let ⟨it, a, b⟩ := x; ⟨it, IsTuple.at1 a k, b⟩
theorem LRep.obj {h : Heap} {l : Addr} {vs} (x : LRep h l vs) : ∃ o it n, h.get? l = some o ∧ o.cls = .type "list" ∧ o.data = .seq it n :=
  let ⟨_, ⟨n, e⟩, _⟩ := x; ⟨_, _, n, e, rfl, rfl⟩
theorem TRep.obj {h : Heap} {l : Addr} {vs} (x : TRep h l vs) : ∃ o it n, h.get? l = some o ∧ o.cls = .type "tuple" ∧ o.data = .seq it n :=
  let ⟨_, ⟨o, e, c, n, d⟩, _⟩ := x; ⟨o, _, n, e, c, d⟩

/-- an object of the frame's own that may be stored into -/
noncomputable def Mut (o : Obj) : Prop := ∀ vs, o.data = .fields vs → o.cls ≠ .none ∧ ∀ x t, vs[1]? ≠ some (.str x t)

/-- the fixed part of the world -/
structure Wd where
  prog : Program
  w : World
  tree : prog.given.tree = none
  g : Heap
  mg : Str → Option Value
  mb : Str → Option Value
  tb : Addr → Prop
  TOk : Heap → Prop
  hg : g.Ns mainGlobals mg
  hb : g.Ns builtinsNs mb
  nl : g.NoLimit
  seer : g.NoSeer
  bi : ∀ x : Str, x ≠ "__name__" → mb x = bootBuiltins x
  tbg : ∀ b o, g.get? b = some o → ¬ tb b
  tin : ∀ h, TOk h → ∀ b, tb b → ∃ ps, h.get? b = some { cls := .none, data := .fields ps }
  tns : ∀ h b ps, TOk h → tb b → h.get? b = some { cls := .none, data := .fields ps } → ∀ x t, ps[1]? ≠ some (.str x t)
  tok : ∀ h h', TOk h → (∀ b o, h.get? b = some o → h'.get? b = some o) → TOk h'
  tom2 : ∀ h h', TOk h → (∀ b o, h.get? b = some o → ¬ Mut o → h'.get? b = some o) → TOk h'

theorem Wd.tom (W : Wd) (h h' : Heap) (a : Addr) (o : Obj) (t : W.TOk h) (ho : h.get? a = some o) (hm : Mut o) (e : Heap.ExtBut a h h') : W.TOk h' :=
  W.tom2 h h' t fun b ob hb hn => e b ob (by rintro rfl; rw [ho] at hb; cases hb; exact hn hm) hb

structure GW (W : Wd) (h : Heap) : Prop where
  keep : ∀ b o, W.g.get? b = some o → h.get? b = some o
  tok : W.TOk h

/-- what a call may do to the state -/
structure ExtU (W : Wd) (s s' : Shared) : Prop where
  keep : ∀ b o, ¬ W.tb b → s.heap.get? b = some o → s'.heap.get? b = some o
  tok : W.TOk s.heap → W.TOk s'.heap
  os : s'.os = s.os
  gens : ∀ (i : Nat) (x : GenState), s.gens[i]? = some x → s'.gens[i]? = some x
  bare : (∀ x ∈ s.gens, x.bare = true) → ∀ x ∈ s'.gens, x.bare = true

theorem ExtU.refl (W : Wd) (s : Shared) : ExtU W s s := ⟨fun _ _ _ e => e, fun e => e, rfl, fun _ _ e => e, fun e => e⟩
theorem ExtU.trans {W : Wd} {a b c : Shared} (x : ExtU W a b) (y : ExtU W b c) : ExtU W a c :=
  ⟨fun d o h e => y.keep d o h (x.keep d o h e), fun e => y.tok (x.tok e), y.os.trans x.os, fun i z e => y.gens i z (x.gens i z e), fun e => y.bare (x.bare e)⟩
theorem ExtU.of_keeps {W : Wd} {s s' : Shared} (k : Keeps s s') : ExtU W s s' := by
  obtain ⟨h', tk, rfl, hk⟩ := k
  exact ⟨fun b o _ e => hk b o e, fun e => W.tok _ _ e hk, rfl, fun _ _ e => e, fun e => e⟩
theorem Keeps.refl' (s : Shared) : Keeps s s := ⟨s.heap, s.toks, rfl, fun _ _ e => e⟩
theorem Keeps.trans' {a b c : Shared} (x : Keeps a b) (y : Keeps b c) : Keeps a c := by
  obtain ⟨h, t, rfl, k⟩ := x
  obtain ⟨h', t', rfl, k'⟩ := y
  exact ⟨h', t', rfl, fun b o e => k' b o (k b o e)⟩
theorem Keeps.mk' {s : Shared} (h' : Heap) (tk : Nat) (k : ∀ b o, s.heap.get? b = some o → h'.get? b = some o) : Keeps s { s with heap := h', toks := tk } := ⟨h', tk, rfl, k⟩

noncomputable def Ex (W : Wd) (u : Bool) (s s' : Shared) : Prop := if u = true then ExtU W s s' else Keeps s s'
theorem Ex.refl (W : Wd) (u : Bool) (s : Shared) : Ex W u s s := by
  unfold Ex; split
  · exact .refl W s
  · exact Keeps.refl' s
theorem Ex.trans {W : Wd} {u : Bool} {a b c : Shared} (x : Ex W u a b) (y : Ex W u b c) : Ex W u a c := by
  unfold Ex at *; split
  · rename_i h; rw [if_pos h] at x y; exact x.trans y
  · rename_i h; rw [if_neg h] at x y; exact Keeps.trans' x y
theorem Ex.of_keeps {W : Wd} {u : Bool} {s s' : Shared} (k : Keeps s s') : Ex W u s s' := by
  unfold Ex; split
  · exact .of_keeps k
  · exact k
theorem Ex.ext {W : Wd} {u : Bool} {s s' : Shared} (x : Ex W u s s') : ExtU W s s' := by
  unfold Ex at x; split at x
  · exact x
  · exact .of_keeps x
theorem Ex.up {W : Wd} {u u' : Bool} (hu : u = true → u' = true) {s s' : Shared} (x : Ex W u s s') : Ex W u' s s' := by
  unfold Ex at *
  cases u with
  | true => rw [if_pos (hu rfl)]; simpa using x
  | false =>
    simp at x
    split
    · exact .of_keeps x
    · exact x
theorem Ex.toks {W : Wd} {u : Bool} {s : Shared} {tk : Nat} : Ex W u s { s with toks := tk } := .of_keeps ⟨s.heap, tk, rfl, fun _ _ e => e⟩
theorem Ex.push {W : Wd} {u : Bool} {s : Shared} {o : Obj} {tk : Nat} : Ex W u s { s with heap := s.heap.push o, toks := tk } := .of_keeps ⟨_, tk, rfl, fun _ _ e => Heap.get?_push_of_some _ e⟩
theorem Ex.heap {W : Wd} {u : Bool} {s : Shared} {h' : Heap} {tk : Nat} (k : ∀ b o, s.heap.get? b = some o → h'.get? b = some o) : Ex W u s { s with heap := h', toks := tk } := .of_keeps ⟨_, tk, rfl, k⟩

theorem GW.ext {W : Wd} {s s' : Shared} (x : GW W s.heap) (e : ExtU W s s') : GW W s'.heap :=
  ⟨fun b o h => e.keep b o (W.tbg b o h) (x.keep b o h), e.tok x.tok⟩
theorem GW.ns {W : Wd} {h : Heap} (x : GW W h) : h.Ns mainGlobals W.mg := W.hg.keeps x.keep
theorem GW.nb {W : Wd} {h : Heap} (x : GW W h) : h.Ns builtinsNs W.mb := W.hb.keeps x.keep
theorem GW.nl {W : Wd} {h : Heap} (x : GW W h) : h.NoLimit := W.nl.keeps x.keep
theorem GW.seer {W : Wd} {h : Heap} (x : GW W h) : h.NoSeer := W.seer.keeps x.keep

/-- an existing list or tuple is no table -/
theorem LRep.not_tb {W : Wd} {h : Heap} {l : Addr} {vs} (x : LRep h l vs) (t : W.TOk h) : ¬ W.tb l := fun e => by
  obtain ⟨ps, hp⟩ := W.tin h t l e
  obtain ⟨o, it, n, ho, hc, hd⟩ := x.obj
  rw [hp] at ho; cases ho; cases hc
theorem TRep.not_tb {W : Wd} {h : Heap} {l : Addr} {vs} (x : TRep h l vs) (t : W.TOk h) : ¬ W.tb l := fun e => by
  obtain ⟨ps, hp⟩ := W.tin h t l e
  obtain ⟨o, it, n, ho, hc, hd⟩ := x.obj
  rw [hp] at ho; cases ho; cases hc
theorem LRep.ext {W : Wd} {s s' : Shared} {l : Addr} {vs} (x : LRep s.heap l vs) (t : W.TOk s.heap) (e : ExtU W s s') : LRep s'.heap l vs := x.at1 fun o ho => e.keep l o (x.not_tb t) ho
theorem TRep.ext {W : Wd} {s s' : Shared} {l : Addr} {vs} (x : TRep s.heap l vs) (t : W.TOk s.heap) (e : ExtU W s s') : TRep s'.heap l vs := x.at1 fun o ho => e.keep l o (x.not_tb t) ho

/-- room for calls -/
structure Room (A : Around) (n : Nat) : Prop where
  hd : A.handled = none
  fr : ∃ e r, A.frames = some (e :: r) ∧ e.scope.isGenerator = false ∧ e.scope.isCoroutine = false ∧ e.builtins = builtinsNs ∧ e.globals = mainGlobals
  dp : A.depth + n ≤ 800
  un : A.units + 8 * n ≤ 9000
theorem Room.le {A : Around} {n m : Nat} (r : Room A n) (h : m ≤ n) : Room A m := ⟨r.hd, r.fr, by have := r.dp; omega, by have := r.un; omega⟩
end
section
open PySem PySem.W PyProof.Rows PySem.Calls

theorem Str.ofString_inj {a b : String} : Str.ofString a = Str.ofString b ↔ a = b := by
  refine ⟨fun h => ?_, fun h => by rw [h]⟩
  rw [Str.ofString_eq_toList, Str.ofString_eq_toList] at h
  have h2 := congrArg (fun x : PySem.Str => x.cps.toList) h
  simp only at h2
  have h3 : a.toList = b.toList := by
    have inj : ∀ (l l' : List Char), l.map Char.toNat = l'.map Char.toNat → l = l' := by
      intro l
      induction l with
      | nil => intro l' e; cases l' with
        | nil => rfl
        | cons _ _ => cases e
      | cons c r ih =>
        intro l' e
        cases l' with
        | nil => cases e
        | cons d r' =>
          simp only [List.map_cons, List.cons.injEq] at e
          rw [ih _ e.2, Char.toNat_inj.mp e.1]
    exact inj _ _ h2
  exact String.toList_inj.mp h3

noncomputable abbrev Loc := List (Str × AV)
noncomputable def look (x : Str) : Loc → Option AV
  | [] => none
  | (y, a) :: r => if x = y then some a else look x r
noncomputable def setv (x : Str) (a : AV) : Loc → Loc
  | [] => [(x, a)]
  | (y, b) :: r => if x = y then (y, a) :: r else (y, b) :: setv x a r

theorem look_nil (x : Str) : look x [] = none := rfl
theorem look_cons (s y : String) (a : AV) (r : Loc) : look (Str.ofString s) ((Str.ofString y, a) :: r) = if s = y then some a else look (Str.ofString s) r := by
  simp only [look, Str.ofString_inj]
theorem setv_nil (x : Str) (a : AV) : setv x a [] = [(x, a)] := rfl
theorem setv_cons (s y : String) (a b : AV) (r : Loc) : setv (Str.ofString s) a ((Str.ofString y, b) :: r) = if s = y then (Str.ofString y, a) :: r else (Str.ofString y, b) :: setv (Str.ofString s) a r := by
  simp only [setv, Str.ofString_inj]
theorem look_setv_self (x : Str) (a : AV) : ∀ ρ : Loc, look x (setv x a ρ) = some a
  | [] => by simp [setv, look]
  | (y, b) :: r => by
    unfold setv
    split
    · rename_i h; subst h; simp [look]
    · rename_i h; simp [look, h, look_setv_self x a r]
theorem look_setv_ne {x y : Str} (a : AV) (h : y ≠ x) : ∀ ρ : Loc, look y (setv x a ρ) = look y ρ
  | [] => by simp [setv, look, h]
  | (z, b) :: r => by
    unfold setv
    split
    · rename_i q; subst q; simp [look, h]
    · simp only [look, look_setv_ne a h r]

structure EnvOk (env : Env) : Prop where
  kind : env.scope.kind = .function
  glob : env.globals = mainGlobals
  bui : env.builtins = builtinsNs
  cel : ∀ x, env.kindOf x = some .cell → ∃ c, env.cells.lookup x = some c

/-- the name x stands for v -/
noncomputable def Rd (W : Wd) (env : Env) (h : Heap) (x : Str) (v : Value) : Prop :=
  (x == ("__debug__" : Str)) = false ∧
  ((env.kindOf x = some .local ∧ ∃ m, h.Ns env.locals m ∧ m x = some v) ∨
   (env.kindOf x = some .cell ∧ ∃ c, env.cells.lookup x = some c ∧ h.IsCell c (some v)) ∨
   (env.kindOf x = some .free ∧ (x == ("__classdict__" : Str)) = false ∧ ∃ c, env.cells.lookup x = some c ∧ h.IsCell c (some v)) ∨
   (env.kindOf x = some .globalImplicit ∧ W.mg x = some v) ∨
   (env.kindOf x = some .globalImplicit ∧ W.mg x = none ∧ x ≠ ("__name__" : Str) ∧ bootBuiltins x = some v))

section
variable {M : Model} {A : Around} {E : Value → Shared → Prop} {s : Shared} {W : Wd} {env : Env}
theorem Rd.name {x : Str} {v : Value} {pos : Pos} {Q : Value → Shared → Prop} (r : Rd W env s.heap x v) (K : EnvOk env) (G : GW W s.heap) (h : Q v s) : wpAny M A (eval (.Name x pos) env) Q E s := by
  obtain ⟨hd, r⟩ := r
  rcases r with ⟨k, m, hn, hv⟩ | ⟨k, c, hc, hv⟩ | ⟨k, hcd, c, hc, hv⟩ | ⟨k, hv⟩ | ⟨k, hv, hn, hb⟩
  · exact wpAny_Name (wpAny_loadName_local K.kind k hn hv h) hd
  · exact wpAny_Name (wpAny_loadName_cell K.kind k hc hv h) hd
  · exact wpAny_Name (wpAny_loadName_free K.kind k hc hv h hcd) hd
  · exact Name_function_global K.kind k (loadGlobal_global (by rw [K.glob]; exact G.ns) hv h) hd
  · exact Name_function_global K.kind k (loadGlobal_builtin (by rw [K.glob]; exact G.ns) hv (by rw [K.bui]; exact G.nb) ((W.bi x hn).trans hb) h) hd
theorem Rd.load {x : Str} {v : Value} {Q : Value → Shared → Prop} (r : Rd W env s.heap x v) (K : EnvOk env) (G : GW W s.heap) (h : Q v s) (hk : env.kindOf x ≠ some .globalImplicit) : wpAny M A (loadName env x) Q E s := by
  obtain ⟨hd, r⟩ := r
  rcases r with ⟨k, m, hn, hv⟩ | ⟨k, c, hc, hv⟩ | ⟨k, hcd, c, hc, hv⟩ | ⟨k, hv⟩ | ⟨k, hv, hn, hb⟩
  · exact wpAny_loadName_local K.kind k hn hv h
  · exact wpAny_loadName_cell K.kind k hc hv h
  · exact wpAny_loadName_free K.kind k hc hv h hcd
  · exact absurd k hk
  · exact absurd k hk
end

theorem Rd.step {W : Wd} {env : Env} {h h' : Heap} {x : Str} {v : Value} (r : Rd W env h x v) (hl : ∀ m, h.Ns env.locals m → h'.Ns env.locals m) (hc : ∀ c w, h.IsCell c w → h'.IsCell c w) : Rd W env h' x v := by
  obtain ⟨hd, r⟩ := r
  refine ⟨hd, ?_⟩
  rcases r with ⟨k, m, hn, hv⟩ | ⟨k, c, hc', hv⟩ | ⟨k, hcd, c, hc', hv⟩ | ⟨k, hv⟩ | ⟨k, hv, hn, hb⟩
  · exact .inl ⟨k, m, hl m hn, hv⟩
  · exact .inr (.inl ⟨k, c, hc', hc c _ hv⟩)
  · exact .inr (.inr (.inl ⟨k, hcd, c, hc', hc c _ hv⟩))
  · exact .inr (.inr (.inr (.inl ⟨k, hv⟩)))
  · exact .inr (.inr (.inr (.inr ⟨k, hv, hn, hb⟩)))

theorem Ns.ext {W : Wd} {s s' : Shared} {L : Addr} {m : Str → Option Value} (x : s.heap.Ns L m) (t : W.TOk s.heap) (e : ExtU W s s') : s'.heap.Ns L m := by
  refine x.at' fun o ho => e.keep L o (fun hb => ?_) ho
  obtain ⟨o', es, ep, h1, h2, _⟩ := x
  obtain ⟨ps, hp⟩ := W.tin _ t L hb
  rw [hp] at h1; cases h1; cases h2
theorem IsCell.ext {W : Wd} {s s' : Shared} {c : Addr} {v : Option Value} (x : s.heap.IsCell c v) (t : W.TOk s.heap) (e : ExtU W s s') : s'.heap.IsCell c v := by
  obtain ⟨o, ho, hd⟩ := x
  refine ⟨o, e.keep c o (fun hb => ?_) ho, hd⟩
  obtain ⟨ps, hp⟩ := W.tin _ t c hb
  rw [hp] at ho; cases ho; cases hd
theorem Rd.ext {W : Wd} {env : Env} {s s' : Shared} {x : Str} {v : Value} (r : Rd W env s.heap x v) (t : W.TOk s.heap) (e : ExtU W s s') : Rd W env s'.heap x v :=
  r.step (fun _ hn => Ns.ext hn t e) fun _ _ hc => IsCell.ext hc t e

/-- what a call of a known callee gives -/
noncomputable abbrev FSpec := List AV → (AV → Prop) → Prop
structure Sig where
  lv : Nat
  ub : Bool
  φ : FSpec

/-- arguments -/
noncomputable def ARep (h : Heap) (v : Value) : AV → Prop
  | .sc a => SRep v a
  | .list _ vs => ∃ l, v = .ref l ∧ LRep h l vs
  | .tup vs => ∃ l, v = .ref l ∧ TRep h l vs
  | .ty t => v = .type t
  | _ => True
inductive AReps (h : Heap) : List Value → List AV → Prop
  | nil : AReps h [] []
  | cons {v a vs as} : ARep h v a → AReps h vs as → AReps h (v :: vs) (a :: as)
theorem ARep.ext {W : Wd} {s s' : Shared} {v : Value} {a : AV} (x : ARep s.heap v a) (t : W.TOk s.heap) (e : ExtU W s s') : ARep s'.heap v a := by
  cases a with
  | list => obtain ⟨l, rfl, x⟩ := x; exact ⟨l, rfl, x.ext t e⟩
  | tup => obtain ⟨l, rfl, x⟩ := x; exact ⟨l, rfl, x.ext t e⟩
  | _ => exact x
theorem AReps.ext {W : Wd} {s s' : Shared} {vs : List Value} {as : List AV} (x : AReps s.heap vs as) (t : W.TOk s.heap) (e : ExtU W s s') : AReps s'.heap vs as := by
  induction x with
  | nil => exact .nil
  | cons h _ ih => exact .cons (h.ext t e) ih

/-- what the machine knows of a range object and of a reversed list -/
noncomputable def RngRep (h : Heap) (v : Value) (n : Int) : Prop := 0 ≤ n ∧ n ≤ 2 ^ 20 ∧ ∃ l t u w, v = .ref l ∧ IsRange h l 0 n 1 t u w
noncomputable def RevRep (own : Option Addr) (h₀ h : Heap) (v : Value) (t : Tag) (vs : List SV) : Prop := ∃ I l, ∃ items : List Value, v = .ref I ∧ (t = .shr → own ≠ some l) ∧ h₀.get? I = none ∧ h.IsRevIter I l ((items.length : Int) - 1) ∧ h.IsList l items.toArray ∧ Reps items vs ∧ l ≠ I

/-- answers: h₀ the heap ahead, h behind -/
noncomputable def RRep (F : Nat → Value → Prop) (own : Option Addr) (h₀ h : Heap) (v : Value) : AV → Prop
  | .sc a => SRep v a
  | .list .tmp vs => ∃ l, v = .ref l ∧ h₀.get? l = none ∧ LRep h l vs
  | .list .shr vs => ∃ l, v = .ref l ∧ own ≠ some l ∧ LRep h l vs
  | .list .own vs => ∃ l, v = .ref l ∧ own = some l ∧ LRep h l vs
  | .tup vs => ∃ l, v = .ref l ∧ TRep h l vs
  | .fn k => F k v
  | .ty t => v = .type t
  | .rng n => RngRep h v n
  | .rev t vs => RevRep own h₀ h v t vs
  | .obj a => v = .ref a

/-- a stored value -/
noncomputable def VRep (F : Nat → Value → Prop) (own : Option Addr) (h : Heap) (v : Value) : AV → Prop
  | .sc a => SRep v a
  | .list .tmp _ => False
  | .list .shr vs => ∃ l, v = .ref l ∧ own ≠ some l ∧ LRep h l vs
  | .list .own vs => ∃ l, v = .ref l ∧ own = some l ∧ LRep h l vs
  | .fn k => F k v
  | .ty t => v = .type t
  | .obj a => v = .ref a
  | _ => False

section
variable {F : Nat → Value → Prop} {own : Option Addr} {W : Wd}
theorem VRep.ext {s s' : Shared} {v : Value} {a : AV} (x : VRep F own s.heap v a) (t : W.TOk s.heap) (e : ExtU W s s') : VRep F own s'.heap v a := by
  cases a with
  | sc a => exact x
  | list tg vs =>
    cases tg with
    | tmp => exact x
    | shr => obtain ⟨l, rfl, h, x⟩ := x; exact ⟨l, rfl, h, x.ext t e⟩
    | own => obtain ⟨l, rfl, h, x⟩ := x; exact ⟨l, rfl, h, x.ext t e⟩
  | tup vs => exact x
  | fn k => exact x
  | ty k => exact x
  | rng n => exact x
  | rev _ _ => exact x
  | obj _ => exact x
theorem VRep.res {h₀ h : Heap} {v : Value} {a : AV} (x : VRep F own h v a) : RRep F own h₀ h v a := by
  cases a with
  | list tg vs => cases tg <;> first | exact x | exact x.elim
  | sc a => exact x
  | fn k => exact x
  | ty k => exact x
  | tup vs => exact x.elim
  | rng n => exact x.elim
  | rev _ _ => exact x.elim
  | obj _ => exact x
theorem keepObj {s s' : Shared} {l : Addr} {o : Obj} (e : ExtU W s s') (t : W.TOk s.heap) (h : s.heap.get? l = some o) (hc : o.cls ≠ .none) : s'.heap.get? l = some o :=
  e.keep l o (fun hb => by obtain ⟨ps, hp⟩ := W.tin _ t l hb; rw [hp] at h; cases h; exact hc rfl) h
/-- what an answer is behind further steps -/
theorem RRep.ext {h₀ : Heap} {s s' : Shared} {v : Value} {a : AV} (x : RRep F own h₀ s.heap v a) (t : W.TOk s.heap) (e : ExtU W s s') : RRep F own h₀ s'.heap v a := by
  cases a with
  | sc a => exact x
  | list tg vs =>
    cases tg with
    | tmp => obtain ⟨l, rfl, h, x⟩ := x; exact ⟨l, rfl, h, x.ext t e⟩
    | shr => obtain ⟨l, rfl, h, x⟩ := x; exact ⟨l, rfl, h, x.ext t e⟩
    | own => obtain ⟨l, rfl, h, x⟩ := x; exact ⟨l, rfl, h, x.ext t e⟩
  | tup vs => obtain ⟨l, rfl, x⟩ := x; exact ⟨l, rfl, x.ext t e⟩
  | fn k => exact x
  | ty k => exact x
  | obj _ => exact x
  | rng n => obtain ⟨h1, h2, l, t', u, w, rfl, x⟩ := x; exact ⟨h1, h2, l, t', u, w, rfl, keepObj e t x nofun⟩
  | rev _ vs =>
    obtain ⟨I, l, items, rfl, how, hn, ⟨o, ho, hc, hd⟩, hl, r, hne⟩ := x
    obtain ⟨ol, hol, hcl, n, hdl⟩ := hl
    exact ⟨I, l, items, rfl, how, hn, ⟨o, keepObj e t ho (by rw [hc]; nofun), hc, hd⟩, ⟨ol, keepObj e t hol (by rw [hcl]; nofun), hcl, n, hdl⟩, r, hne⟩
theorem none_back {s₀ s₁ : Shared} {l : Addr} (hn : s₁.heap.get? l = none) (t : W.TOk s₀.heap) (e : ExtU W s₀ s₁) : s₀.heap.get? l = none := by
  cases hq : s₀.heap.get? l with
  | none => rfl
  | some o =>
    by_cases hb : W.tb l
    · obtain ⟨ps, hp⟩ := W.tin _ (e.tok t) l hb
      rw [hp] at hn; cases hn
    · rw [e.keep l o hb hq] at hn; cases hn
theorem RRep.back {s₀ s₁ : Shared} {h : Heap} {v : Value} {a : AV} (x : RRep F own s₁.heap h v a) (t : W.TOk s₀.heap) (e : ExtU W s₀ s₁) : RRep F own s₀.heap h v a := by
  cases a with
  | list tg vs =>
    cases tg with
    | tmp =>
      obtain ⟨l, rfl, hn, x⟩ := x
      exact ⟨l, rfl, none_back hn t e, x⟩
    | shr => exact x
    | own => exact x
  | rev _ vs =>
    obtain ⟨I, l, items, rfl, how, hn, x⟩ := x
    exact ⟨I, l, items, rfl, how, none_back hn t e, x⟩
  | _ => exact x
theorem RRep.arg {h₀ h : Heap} {v : Value} {a : AV} (x : RRep F own h₀ h v a) : ARep h v a := by
  cases a with
  | list tg vs =>
    cases tg <;> (obtain ⟨l, rfl, _, x⟩ := x; exact ⟨l, rfl, x⟩)
  | fn k => trivial
  | rng n => trivial
  | rev _ _ => trivial
  | obj _ => trivial
  | _ => exact x
/-- a fresh answer -/
noncomputable def Ans (h₀ h : Heap) (v : Value) : AV → Prop
  | .sc a => SRep v a
  | .list .tmp vs => ∃ l, v = .ref l ∧ h₀.get? l = none ∧ LRep h l vs
  | .tup vs => ∃ l, v = .ref l ∧ TRep h l vs
  | .rng n => RngRep h v n
  | _ => False
theorem Ans.res {h₀ h : Heap} {v : Value} {a : AV} (x : Ans h₀ h v a) : RRep F own h₀ h v a := by
  cases a with
  | list tg vs => cases tg <;> first | exact x | exact x.elim
  | fn k => exact x.elim
  | ty k => exact x.elim
  | rev _ _ => exact x.elim
  | obj _ => exact x.elim
  | _ => exact x
inductive RReps (F : Nat → Value → Prop) (own : Option Addr) (h₀ h : Heap) : List Value → List AV → Prop
  | nil : RReps F own h₀ h [] []
  | cons {v a vs as} : RRep F own h₀ h v a → RReps F own h₀ h vs as → RReps F own h₀ h (v :: vs) (a :: as)
theorem RReps.args {h₀ h : Heap} {vs as} (x : RReps F own h₀ h vs as) : AReps h vs as := by
  induction x with
  | nil => exact .nil
  | cons a _ ih => exact .cons a.arg ih
end
end
section
open PySem PySem.W PyProof.Rows PySem.Calls PySem.Spec

noncomputable abbrev cs (x : Str) : List Nat := x.cps.toList
noncomputable abbrev mkS (l : List Nat) : Str := ⟨l.toArray⟩
noncomputable abbrev aI (i : Int) : AV := .sc (.int i)
noncomputable abbrev aS (l : List Nat) : AV := .sc (.str (mkS l))
noncomputable abbrev aB (b : Bool) : AV := .sc (.bool b)

inductive BinE (k : AV → Prop) : Operator → AV → AV → Prop
  | add {x y : Int} (h : k (aI (x + y))) : BinE k .Add (aI x) (aI y)
  | sub {x y : Int} (h : k (aI (x - y))) : BinE k .Sub (aI x) (aI y)
  | subB {x y : Bool} (h : k (aI (b2i x - b2i y))) : BinE k .Sub (aB x) (aB y)
  | mul {x y : Int} (h0 : IntMulOk x y) (h : k (aI (x * y))) : BinE k .Mult (aI x) (aI y)
  | fd {x y : Int} (h0 : y ≠ 0) (h : k (aI (x.fdiv y))) : BinE k .FloorDiv (aI x) (aI y)
  | mod {x y : Int} (h0 : y ≠ 0) (h : k (aI (x.fmod y))) : BinE k .Mod (aI x) (aI y)
  | pow {x y : Int} (h0 : 0 ≤ y) (h1 : (Builtin.Int.intBits x : Int) * y ≤ 2 ^ 27) (h : k (aI (x ^ y.toNat))) : BinE k .Pow (aI x) (aI y)
  | shl {x y : Int} (h0 : 0 ≤ y) (h1 : (Builtin.Int.intBits x : Int) + y ≤ 2 ^ 27) (h : k (aI (x * 2 ^ y.toNat))) : BinE k .LShift (aI x) (aI y)
  | shr {x y : Int} (h0 : 0 ≤ y) (h : k (aI (x.fdiv (2 ^ y.toNat)))) : BinE k .RShift (aI x) (aI y)
  | and {x y : Int} (h : k (aI (Builtin.bitAnd x y))) : BinE k .BitAnd (aI x) (aI y)
  | or {x y : Int} (h : k (aI (Builtin.bitOr x y))) : BinE k .BitOr (aI x) (aI y)
  | xor {x y : Int} (h : k (aI (Builtin.bitXor x y))) : BinE k .BitXor (aI x) (aI y)
  | cat {x y : Str} (h0 : x.length + y.length ≤ sizeLine) (h : k (aS (cs x ++ cs y))) : BinE k .Add (.sc (.str x)) (.sc (.str y))
  | rep {x : Str} {n : Int} (h0 : 1 ≤ n) (h1 : (x.length : Int) * n ≤ 2 ^ 20) (h2 : n ≤ 2 ^ 20) (h : k (aS ((List.replicate n.toNat (cs x)).flatten))) : BinE k .Mult (.sc (.str x)) (aI n)
  | lcat {t t' : Tag} {xs ys : List SV} (h0 : xs.length + ys.length ≤ 2 ^ 20) (h : k (.list .tmp (xs ++ ys))) : BinE k .Add (.list t xs) (.list t' ys)
  | lrep {t : Tag} {x : SV} {n : Int} (h0 : 0 ≤ n) (h1 : n ≤ 2 ^ 20) (h : k (.list .tmp (List.replicate n.toNat x))) : BinE k .Mult (.list t [x]) (aI n)
noncomputable abbrev binE (op : Operator) (a b : AV) (k : AV → Prop) : Prop := BinE k op a b

inductive NegE (k : AV → Prop) : AV → Prop
  | int {x : Int} (h : k (aI (-x))) : NegE k (aI x)
noncomputable abbrev negE (a : AV) (k : AV → Prop) : Prop := NegE k a

noncomputable def isInts : List SV → Bool
  | [] => true
  | .int _ :: r => isInts r
  | _ => false
noncomputable def isStrs : List SV → Bool
  | [] => true
  | .str x :: r => PyData.strOk x && isStrs r
  | _ => false

noncomputable def ltS : List Nat → List Nat → Bool
  | _, [] => false
  | [], _ :: _ => true
  | a :: r, b :: r' => decide (a < b) || (decide (a = b) && ltS r r')

inductive CmpE (k : Bool → Prop) : CmpOp → AV → AV → Prop
  | lt {x y : Int} (h : k (decide (x < y))) : CmpE k .Lt (aI x) (aI y)
  | le {x y : Int} (h : k (decide (x ≤ y))) : CmpE k .LtE (aI x) (aI y)
  | gt {x y : Int} (h : k (decide (y < x))) : CmpE k .Gt (aI x) (aI y)
  | ge {x y : Int} (h : k (decide (y ≤ x))) : CmpE k .GtE (aI x) (aI y)
  | eq {x y : Int} (h : k (decide (x = y))) : CmpE k .Eq (aI x) (aI y)
  | ne {x y : Int} (h : k (decide (x ≠ y))) : CmpE k .NotEq (aI x) (aI y)
  | ltS {x y : Str} (h : k (ltS (cs x) (cs y))) : CmpE k .Lt (.sc (.str x)) (.sc (.str y))
  | gtS {x y : Str} (h : k (ltS (cs y) (cs x))) : CmpE k .Gt (.sc (.str x)) (.sc (.str y))
  | eqL {t t' : Tag} {xs ys : List SV} (h0 : ((isInts xs && isInts ys) || (isStrs xs && isStrs ys)) = true) (h1 : xs.length ≤ 2 ^ 20) (h2 : ys.length ≤ 2 ^ 20) (h : k (decide (xs = ys))) : CmpE k .Eq (.list t xs) (.list t' ys)
  | neL {t t' : Tag} {xs ys : List SV} (h0 : ((isInts xs && isInts ys) || (isStrs xs && isStrs ys)) = true) (h1 : xs.length ≤ 2 ^ 20) (h2 : ys.length ≤ 2 ^ 20) (h : k (decide (xs ≠ ys))) : CmpE k .NotEq (.list t xs) (.list t' ys)
  | neT {a b c d : Int} (h : k (decide ¬(a = c ∧ b = d))) : CmpE k .NotEq (.tup [.int a, .int b]) (.tup [.int c, .int d])
noncomputable abbrev cmpE (op : CmpOp) (a b : AV) (k : Bool → Prop) : Prop := CmpE k op a b

inductive TruE (k : Bool → Prop) : AV → Prop
  | bool {b : Bool} (h : k b) : TruE k (aB b)
  | int {i : Int} (h : k (decide (i ≠ 0))) : TruE k (aI i)
  | list {t : Tag} {vs : List SV} (h0 : vs.length ≤ 2 ^ 20) (h : k (decide (vs ≠ []))) : TruE k (.list t vs)
noncomputable abbrev truE (a : AV) (k : Bool → Prop) : Prop := TruE k a

inductive SubE (k : AV → Prop) : AV → AV → Prop
  | list {t : Tag} {vs : List SV} {i : Int} (h : 0 ≤ i ∧ i < 2 ^ 40 ∧ ∃ a, vs[i.toNat]? = some a ∧ k (.sc a)) : SubE k (.list t vs) (aI i)
  | str {x : Str} {i : Int} (h : 0 ≤ i ∧ i < 2 ^ 40 ∧ ∃ c, (cs x)[i.toNat]? = some c ∧ k (aS [c])) : SubE k (.sc (.str x)) (aI i)
noncomputable abbrev subE (a b : AV) (k : AV → Prop) : Prop := SubE k a b

inductive SliceE (k : AV → Prop) : AV → Option Int → Option Int → Option Int → Prop
  | str {x : Str} {lo hi : Option Int} (h : 0 ≤ lo.getD 0 ∧ lo.getD 0 ≤ hi.getD x.length ∧ hi.getD x.length ≤ x.length ∧ x.length ≤ 2 ^ 20 ∧ (lo ≠ none ∨ hi ≠ none) ∧
      k (aS (((cs x).drop (lo.getD 0).toNat).take ((hi.getD x.length) - lo.getD 0).toNat))) : SliceE k (.sc (.str x)) lo hi none
  | upto {t : Tag} {vs : List SV} {hi : Int} (h : 0 ≤ hi ∧ hi ≤ vs.length ∧ vs.length ≤ 2 ^ 20 ∧ k (.list .tmp (vs.take hi.toNat))) : SliceE k (.list t vs) none (some hi) none
  | rev {t : Tag} {vs : List SV} (h : vs.length ≤ 2 ^ 20 ∧ k (.list .tmp vs.reverse)) : SliceE k (.list t vs) none none (some (-1))
noncomputable abbrev sliceE (a : AV) (lo hi st : Option Int) (k : AV → Prop) : Prop := SliceE k a lo hi st

noncomputable def strsOf : List SV → Option (List Str)
  | [] => some []
  | .str x :: r => (strsOf r).map (x :: ·)
  | _ => none
noncomputable def sumLen : List Str → Nat
  | [] => 0
  | x :: r => x.length + sumLen r




noncomputable def bitsE : AV → List AV → (AV → Prop) → Prop
  | .sc (.int i), [], k => k (aI (Builtin.Int.intBits i : Nat))
  | _, _, _ => False
noncomputable def joinE : AV → List AV → (AV → Prop) → Prop
  | .sc (.str x), [.list _ vs], k => x = mkS [] ∧ ∃ ys, strsOf vs = some ys ∧ sumLen ys ≤ 2 ^ 20 ∧ vs.length ≤ 2 ^ 20 ∧ k (aS (ys.flatMap cs))
  | _, _, _ => False
noncomputable def indexE : AV → List AV → (AV → Prop) → Prop
  | .sc (.str x), [.sc (.str y)], k => ∃ c i, cs y = [c] ∧ (cs x)[i]? = some c ∧ (∀ j < i, (cs x)[j]? ≠ some c) ∧ k (aI (i : Nat))
  | _, _, _ => False
noncomputable def methE (a : AV) (nm : String) (as : List AV) (k : AV → Prop) : Prop :=
  if nm = "bit_length" then bitsE a as k else if nm = "join" then joinE a as k else if nm = "index" then indexE a as k else False
noncomputable def isIntA : AV → Bool
  | .sc (.int _) => true
  | _ => false
noncomputable def isStrA : AV → Bool
  | .sc (.str _) => true
  | _ => false
noncomputable def isNilS : AV → Bool
  | .sc (.str x) => decide (x = mkS [])
  | _ => false
noncomputable def methOk (a : AV) (nm : String) (n : Nat) : Bool :=
  if nm = "bit_length" then isIntA a && decide (n = 0) else if nm = "join" then isNilS a && decide (n = 1) else if nm = "index" then isStrA a && decide (n = 1) else false
noncomputable def revE : AV → (AV → Prop) → Prop
  | .list t vs, k => vs.length ≤ 2 ^ 20 ∧ k (.rev t vs)
  | _, _ => False
noncomputable def scs : List AV → Option (List SV)
  | [] => some []
  | .sc a :: r => (scs r).map (a :: ·)
  | _ => none

noncomputable def iterV : AV → Option (List SV)
  | .list _ vs => some vs
  | .rng n => some ((List.range n.toNat).map fun (i : Nat) => SV.int (i : Int))
  | .rev _ vs => some vs.reverse
  | _ => none

noncomputable def evs (f : Expr → (AV → Prop) → Prop) : List Expr → (List AV → Prop) → Prop
  | [], k => k []
  | e :: r, k => f e fun a => evs f r fun as => k (a :: as)

/-- what a comprehension's block sees of the names around it -/
noncomputable def kindIn (ns : List (Str × NameKind)) (x : Str) (k : NameKind) : Bool := ns.lookup x == some k
noncomputable def cρ (es sc : Scope) : Loc → Loc
  | [] => []
  | (x, a) :: r => if ((kindIn sc.names x .free && kindIn es.names x .cell) || (kindIn sc.names x .globalImplicit && kindIn es.names x .globalImplicit)) = true then (x, a) :: cρ es sc r else cρ es sc r

noncomputable def compOk (es sc : Scope) (t : Str) : Bool :=
  sc.names.all (fun y => y.2 != .cell) && sc.kind == .function && sc.names.all (fun y => y.2 != .local || kindIn sc.names y.1 .local) && kindIn sc.names t .local &&
  sc.names.all (fun y => y.2 != .free || kindIn es.names y.1 .cell) && (t != ("__debug__" : Str))

noncomputable def isStar (e : Expr) : Bool := Nat.beq e.ctorIdx 22
noncomputable def noStar : List Expr → Bool
  | [] => true
  | e :: r => !isStar e && noStar r
noncomputable def notSlice (e : Expr) : Bool := !Nat.beq e.ctorIdx 26
theorem not_star {e : Expr} (h : isStar e = false) : ∀ v p, e ≠ .Starred v p := by rintro v p rfl; exact Bool.noConfusion (show true = false from h)
noncomputable def noScope : Scope := { kind := .function, names := [], isGenerator := false, isCoroutine := false }
noncomputable abbrev EvT := Bool → Scope → Loc → Expr → (AV → Prop) → Prop
noncomputable abbrev TsT := Bool → Scope → Loc → Expr → (Bool → Prop) → Prop
noncomputable abbrev PtT := Bool → Scope → Loc → Option Expr → (Option Int → Prop) → Prop
inductive CalE (ev : Expr → (AV → Prop) → Prop) (S : Nat → Sig) (R : Nat) (u : Bool) (a0 : Expr) (args : List Expr) (k : AV → Prop) : AV → Prop
  | fn {key : Nat} (h : (S key).lv ≤ R ∧ ((S key).ub = true → u = true) ∧ evs ev (a0 :: args) fun as => (S key).φ as k) : CalE ev S R u a0 args k (.fn key)
  | ty (h : args = [] ∧ ev a0 fun b => revE b k) : CalE ev S R u a0 args k (.ty "reversed")
inductive EvS (S : Nat → Sig) (R : Nat) (ev : EvT) (ts : TsT) (pt : PtT) (u : Bool) (es : Scope) (ρ : Loc) (k : AV → Prop) : Expr → Prop
  | int {i : Int} {a : Nat} {p : Pos} (h : k (aI i)) : EvS S R ev ts pt u es ρ k (.Constant (.int i) a p)
  | str {x : Str} {a : Nat} {p : Pos} (h : k (.sc (.str x))) : EvS S R ev ts pt u es ρ k (.Constant (.str x) a p)
  | bool {b : Bool} {a : Nat} {p : Pos} (h : k (aB b)) : EvS S R ev ts pt u es ρ k (.Constant (.bool b) a p)
  | none {a : Nat} {p : Pos} (h : k (.sc .none)) : EvS S R ev ts pt u es ρ k (.Constant .none a p)
  | name {x : Str} {p : Pos} {a : AV} (h0 : look x ρ = some a) (h : k a) : EvS S R ev ts pt u es ρ k (.Name x p)
  | bin {l r : Expr} {op : Operator} {p : Pos} (h : ev u es ρ l fun a => ev u es ρ r fun b => binE op a b k) : EvS S R ev ts pt u es ρ k (.BinOp l op r p)
  | usub {x : Expr} {p : Pos} (h : ev u es ρ x fun a => negE a k) : EvS S R ev ts pt u es ρ k (.UnaryOp .USub x p)
  | and {x y : Expr} {p : Pos} (h : ev u es ρ x fun a => ∃ b, a = aB b ∧ (b = true → ev u es ρ y k) ∧ (b = false → k (aB false))) : EvS S R ev ts pt u es ρ k (.BoolOp .And [x, y] p)
  | ife {t b o : Expr} {p : Pos} (h : ts u es ρ t fun c => (c = true → ev u es ρ b k) ∧ (c = false → ev u es ρ o k)) : EvS S R ev ts pt u es ρ k (.IfExp t b o p)
  | cmp {l r : Expr} {op : CmpOp} {p : Pos} (h0 : behindInMarks op r = false) (h : ev u es ρ l fun a => ev u es ρ r fun b => cmpE op a b fun c => k (aB c)) : EvS S R ev ts pt u es ρ k (.Compare l [op] [r] p)
  | slice {v : Expr} {lo hi st : Option Expr} {p q : Pos} (h : ev u es ρ v fun a => pt u es ρ lo fun i => pt u es ρ hi fun j => pt u es ρ st fun t => sliceE a i j t k) : EvS S R ev ts pt u es ρ k (.Subscript v (.Slice lo hi st q) p)
  | sub {v i : Expr} {p : Pos} (h0 : notSlice i = true) (h : ev u es ρ v fun a => ev u es ρ i fun b => subE a b k) : EvS S R ev ts pt u es ρ k (.Subscript v i p)
  | list {el : List Expr} {p : Pos} (h0 : noStar el = true) (h : evs (ev u es ρ) el fun as => ∃ vs, scs as = some vs ∧ vs.length ≤ 2 ^ 20 ∧ k (.list .tmp vs)) : EvS S R ev ts pt u es ρ k (.List el p)
  | tup {el : List Expr} {c : Nat} {p : Pos} (h0 : noStar el = true) (h : evs (ev u es ρ) el fun as => ∃ vs, scs as = some vs ∧ vs.length ≤ 2 ^ 20 ∧ k (.tup vs)) : EvS S R ev ts pt u es ρ k (.Tuple el c p)
  | meth {o : Expr} {nm : String} {ap pos : Pos} {args : List Expr} (h0 : noStar args = true) (h1 : args.length ≤ 1) (h2 : ∀ f p q, o ≠ .Call (.Name f p) [] [] q) (h3 : (ap.endLine == pos.line) = true)
      (h : ev u es ρ o fun a => methOk a nm args.length = true ∧ evs (ev u es ρ) args fun as => methE a nm as k) : EvS S R ev ts pt u es ρ k (.Call (.Attribute o (Str.ofString nm) ap) args [] pos)
  | call {f : Str} {p q : Pos} {a0 : Expr} {args : List Expr} (h0 : noStar (a0 :: args) = true) (h : ev u es ρ (.Name f p) fun a => CalE (ev u es ρ) S R u a0 args k a) : EvS S R ev ts pt u es ρ k (.Call (.Name f p) (a0 :: args) [] q)
  | comp {elt iter : Expr} {t : Str} {tp p : Pos} {sc : Scope} (h0 : ∀ x env, foldedSetIterable iter env x = pure x) (h1 : compOk es sc t = true) (g : SV → SV) (h : ev u es ρ iter fun it => ∃ vs, iterV it = some vs ∧ vs.length ≤ 2 ^ 20 ∧
        (∀ v ∈ vs, ev false noScope ((t, .sc v) :: cρ es sc ρ) elt fun a => a = .sc (g v)) ∧ k (.list .tmp (vs.map g))) : EvS S R ev ts pt u es ρ k (.ListComp elt [⟨.Name t tp, iter, [], 0⟩] sc p)
inductive TsS (ev : EvT) (ts : TsT) (u : Bool) (es : Scope) (ρ : Loc) (k : Bool → Prop) : Expr → Prop
  | cmp {l r : Expr} {op : CmpOp} {p : Pos} (h0 : behindInMarks op r = false) (h : ev u es ρ l fun a => ev u es ρ r fun b => cmpE op a b k) : TsS ev ts u es ρ k (.Compare l [op] [r] p)
  | chain {l r r' : Expr} {op op' : CmpOp} {p : Pos} (h0 : behindInMarks op r = false) (h1 : behindInMarks op' r' = false) (h : ev u es ρ l fun a => ev u es ρ r fun b => cmpE op a b fun c =>
        (c = true → ev u es ρ r' fun b' => cmpE op' b b' k) ∧ (c = false → k false)) : TsS ev ts u es ρ k (.Compare l [op, op'] [r, r'] p)
  | and {x y : Expr} {p : Pos} (h : ts u es ρ x fun c => (c = true → ts u es ρ y k) ∧ (c = false → k false)) : TsS ev ts u es ρ k (.BoolOp .And [x, y] p)
  | or {x y : Expr} {p : Pos} (h : ts u es ρ x fun c => (c = true → k true) ∧ (c = false → ts u es ρ y k)) : TsS ev ts u es ρ k (.BoolOp .Or [x, y] p)
  | not {x : Expr} {p : Pos} (h : ts u es ρ x fun c => k (!c)) : TsS ev ts u es ρ k (.UnaryOp .Not x p)
  | name {x : Str} {p : Pos} (h : ev u es ρ (.Name x p) fun a => truE a k) : TsS ev ts u es ρ k (.Name x p)
  | call {f : Expr} {a : List Expr} {kw : List Keyword} {p : Pos} (h : ev u es ρ (.Call f a kw p) fun a => truE a k) : TsS ev ts u es ρ k (.Call f a kw p)
inductive PtS (ev : EvT) (u : Bool) (es : Scope) (ρ : Loc) (k : Option Int → Prop) : Option Expr → Prop
  | none (h : k none) : PtS ev u es ρ k none
  | some {e : Expr} (h : ev u es ρ e fun a => ∃ i, a = aI i ∧ k (some i)) : PtS ev u es ρ k (some e)
structure Lev where
  ev : EvT
  ts : TsT
  pt : PtT
noncomputable def levE (S : Nat → Sig) (R : Nat) (n : Nat) : Lev :=
  Nat.rec ⟨fun _ _ _ _ _ => False, fun _ _ _ _ _ => False, fun _ _ _ _ _ => False⟩ (fun _ L => ⟨fun u es ρ e k => EvS S R L.ev L.ts L.pt u es ρ k e, fun u es ρ e k => TsS L.ev L.ts u es ρ k e, fun u es ρ e k => PtS L.ev u es ρ k e⟩) n
noncomputable def evE (S : Nat → Sig) (R n : Nat) : EvT := (levE S R n).ev
noncomputable def tsE (S : Nat → Sig) (R n : Nat) : TsT := (levE S R n).ts
noncomputable def partE (S : Nat → Sig) (R n : Nat) : PtT := (levE S R n).pt
end
section
open PySem PySem.W PyProof.Rows PySem.Calls PyProof.V PySem.Spec PySem.SeqAt

theorem Reps.rep1 {v : Value} {a : SV} (h : SRep v a) : ∀ n : Nat, Reps (List.replicate n v) (List.replicate n a)
  | 0 => .nil
  | n + 1 => .cons h (Reps.rep1 h n)

section
variable {prog : Program} {w : World} {A : Around} {E : Value → Shared → Prop} {s : Shared}
theorem mul_listP {l : Addr} {items : Array Value} {k : Nat} {x : Int} {u : Tok} {Q : Value → Shared → Prop}
    (hl : s.heap.get? l = some { cls := .type "list", dict := none, data := .seq items k, slots := #[] })
    (hlo : -(2 ^ 63 : Int) ≤ x) (hhi : x < 2 ^ 63) (hsz : items.size * x.toNat ≤ 2 ^ 24)
    (h : Q (.ref s.heap.objs.size) { s with heap := s.heap.push { cls := .type "list", data := .seq (List.foldl (fun x1 x2 => x1 ++ x2) #[] (List.replicate (if items.isEmpty = true then 0 else x.toNat) items)) } }) :
    wpAny (model prog w) A (binaryOp .Mult (.ref l) (.int x u)) Q E s :=
  wpAny_binaryOp_repeat_ref (T := "list") (U := "int") (by decide) ⟨_, hl, rfl⟩ (fun s' => typeIs_int s' x u) noFill_list_mul F.fills_int_mul F.slot_int_rmul repeat_list F.slot_int_index.lookup
    (call_meets F.slot_int_rmul (typeIs_int s x u) F.entry_int_rmul (F.args_int_rmul_2 _ _) (int___rmul___int_list x u l items k)
      ⟨hl, rfl, ⟨_, hl, rfl⟩, call_meets F.slot_list_mul ⟨_, hl, rfl⟩ F.entry_list_mul (F.args_list_mul_2 _ _)
        (AutoListH.list___mul___list_int_3 l items k x u (by simp [Builtin.List.listFitsIndex]; omega) (by omega) (by simp [Builtin.List.listTooLong, sizeLine]; omega))
        ⟨hl, h⟩⟩)
end

theorem foldl_rep (v : Value) : ∀ (n : Nat) (acc : List Value), List.foldl (fun x1 x2 => x1 ++ x2) acc.toArray (List.replicate n #[v]) = (acc ++ List.replicate n v).toArray
  | 0, acc => by simp
  | n + 1, acc => by
    rw [List.replicate_succ, List.foldl_cons]
    have : acc.toArray ++ #[v] = (acc ++ [v]).toArray := by simp
    rw [this, foldl_rep v n (acc ++ [v])]
    simp [List.replicate_succ]

noncomputable def toPy : SV → PyData
  | .none => .none | .bool b => .bool b | .int i => .int i | .str x => .str x

theorem Reps.reads {h : Heap} {vs as} (x : Reps vs as) : ReadsAll h vs (as.map toPy) [] := by
  induction x with
  | nil => exact .nil
  | cons hv _ ih =>
    have hr : ∀ {v a}, SRep v a → Reads h v (toPy a) [] := by
      intro v a r
      cases r with
      | none => exact .none
      | bool b => exact .bool b
      | int i t => exact .int i t
      | str x t => exact .str x t
    have := ReadsAll.cons (hr hv) ih
    simpa using this
theorem LRep.reads {h : Heap} {l : Addr} {vs} (x : LRep h l vs) : Reads h (.ref l) (.list (vs.map toPy)) [l] := by
  obtain ⟨items, ⟨n, hp⟩, r⟩ := x
  exact Reads.list hp rfl rfl (by simpa using r.reads)
theorem TRep.reads {h : Heap} {l : Addr} {vs} (x : TRep h l vs) : Reads h (.ref l) (.tuple (vs.map toPy)) [] := by
  obtain ⟨items, ⟨o, ho, hc, n, hd⟩, r⟩ := x
  exact Reads.tuple ho hc hd (by simpa using r.reads)
noncomputable def strsFine : List SV → Bool
  | [] => true
  | .str x :: r => PyData.strOk x && strsFine r
  | _ :: r => strsFine r
theorem strsFine_of : ∀ vs : List SV, isInts vs = true ∨ isStrs vs = true → strsFine vs = true
  | [], _ => rfl
  | a :: r, h => by
    cases a <;> simp [isInts, isStrs] at h <;> simp [strsFine]
    · exact strsFine_of r (.inl h)
    · exact ⟨h.1, strsFine_of r (.inr h.2)⟩
theorem canLay_toPy : ∀ vs : List SV, strsFine vs = true → PyData.canLayAll0 (vs.map toPy) = true
  | [], _ => by simp [PyData.canLayAll0]
  | a :: r, h => by
    cases a <;> simp [strsFine] at h <;> simp [PyData.canLayAll0, PyData.canLay0, toPy, h]
    · exact canLay_toPy r h
    · exact canLay_toPy r h
    · exact canLay_toPy r h
    · exact canLay_toPy r h.2
theorem depth_toPy : ∀ vs : List SV, PyData.depthAll (vs.map toPy) ≤ 1
  | [] => by simp [PyData.depthAll]
  | a :: r => by
    have := depth_toPy r
    cases a <;> simp only [List.map_cons, PyData.depthAll, PyData.depth, toPy] <;> omega
theorem shaped_toPy (vs : List SV) (hf : strsFine vs = true) : shaped (.list (vs.map toPy)) = true := by
  have h1 := depth_toPy vs
  have h2 : PyData.depth (.list (vs.map toPy)) ≤ 64 := by simp only [PyData.depth]; omega
  show (PyData.canLay0 (.list (vs.map toPy)) && decide (PyData.depth (.list (vs.map toPy)) ≤ 64)) = true
  rw [Bool.and_eq_true]
  exact ⟨by simp only [PyData.canLay0]; exact canLay_toPy vs hf, decide_eq_true h2⟩
theorem shaped_toPyT (vs : List SV) (hf : strsFine vs = true) : shaped (.tuple (vs.map toPy)) = true := by
  have h1 := depth_toPy vs
  have h2 : PyData.depth (.tuple (vs.map toPy)) ≤ 64 := by simp only [PyData.depth]; omega
  show (PyData.canLay0 (.tuple (vs.map toPy)) && decide (PyData.depth (.tuple (vs.map toPy)) ≤ 64)) = true
  rw [Bool.and_eq_true]
  exact ⟨by simp only [PyData.canLay0]; exact canLay_toPy vs hf, decide_eq_true h2⟩

theorem sameIS : ∀ xs ys : List SV, ((isInts xs && isInts ys) || (isStrs xs && isStrs ys)) = true →
    noMixAll (xs.map toPy) (ys.map toPy) = true ∧ PySem.Spec.sameAll (xs.map toPy) (ys.map toPy) = decide (xs = ys)
  | [], [], _ => by simp [noMixAll, PySem.Spec.sameAll]
  | [], _ :: _, _ => by simp [noMixAll, PySem.Spec.sameAll]
  | _ :: _, [], _ => by simp [noMixAll, PySem.Spec.sameAll]
  | x :: r, y :: q, h => by
    cases x <;> cases y <;> simp [isInts, isStrs] at h
    · have ih := sameIS r q (by simp [h])
      simp only [List.map_cons, noMixAll, PySem.Spec.sameAll, toPy, noMix, PySem.Spec.same, ih.1, ih.2]
      rename_i a b
      by_cases e : a = b <;> simp [e]
    · have ih := sameIS r q (by simp [h])
      simp only [List.map_cons, noMixAll, PySem.Spec.sameAll, toPy, noMix, PySem.Spec.same, ih.1, ih.2]
      rename_i a b
      by_cases e : a = b <;> simp [e]

theorem ltS_eq : ∀ a b : List Nat, ltS a b = decide (a < b)
  | [], [] => by simp [ltS]
  | _ :: _, [] => by simp [ltS]
  | [], _ :: _ => by simp [ltS]
  | x :: a, y :: b => by
    have ih := ltS_eq a b
    simp only [ltS, ih, List.cons_lt_cons_iff]
    by_cases h1 : x < y
    · simp [h1]
    · by_cases h2 : x = y <;> simp [h1, h2]

theorem mkS_cs (x : Str) : mkS (cs x) = x := by cases x; simp [mkS, cs]
theorem cs_mkS (l : List Nat) : cs (mkS l) = l := by simp
theorem len_mkS (l : List Nat) : (mkS l).length = l.length := by show l.toArray.size = _; simp
theorem len_cs (x : Str) : (cs x).length = x.length := by show x.cps.toList.length = x.cps.size; simp

section
variable {A : Around} {E : Value → Shared → Prop} {s : Shared} {W : Wd} {F : Nat → Value → Prop} {own : Option Addr}

theorem pylong (G : GW W s.heap) (R : Room A 0) : PySem.PylongRoom (model W.prog W.w) A s := by
  obtain ⟨e, r, h1, h2, h3, h4, h5⟩ := R.fr
  exact PylongRoom.of G.nl (by have := R.dp; simp only [Builtin.pylongFrames, recursionLimit] at *; omega) (SeerAt.of G.seer W.tree h1 h2 h3 h4 h5)

noncomputable abbrev Kp (F : Nat → Value → Prop) (own : Option Addr) (s : Shared) (k : AV → Prop) (Q : Value → Shared → Prop) : Prop :=
  ∀ v s' r, Keeps s s' → RRep F own s.heap s'.heap v r → k r → Q v s'

theorem tok_keeps (tk : Nat) : Keeps s { s with toks := tk } := ⟨s.heap, tk, rfl, fun _ _ e => e⟩
theorem push_keeps (o : Obj) (tk : Nat) : Keeps s { s with heap := s.heap.push o, toks := tk } := ⟨_, tk, rfl, fun _ _ e => Heap.get?_push_of_some _ e⟩
theorem fresh_top (h : Heap) : h.get? h.objs.size = none := Heap.get?_none_of_le (Nat.le_refl _)

theorem _root_.Mine.RRep.list {h₀ h : Heap} {v : Value} {t : Tag} {vs : List SV} (x : RRep F own h₀ h v (.list t vs)) : ∃ l, v = .ref l ∧ LRep h l vs := by
  cases t <;> (obtain ⟨l, e, _, y⟩ := x; exact ⟨l, e, y⟩)
theorem bin_add_str {x y : Str} {t u : Tok} {k : AV → Prop} {Q : Value → Shared → Prop} (h1 : x.length + y.length ≤ sizeLine) (h2 : k (aS (cs x ++ cs y)))
    (hs : ∀ v s' a, Keeps s s' → SRep v a → k (.sc a) → Q v s') : wpAny (model W.prog W.w) A (binaryOp .Add (.str x t) (.str y u)) Q E s := by
  refine PyProof.Rows.add_str (hsz := h1) fun t' tk' => ?_
  refine hs _ _ _ (tok_keeps _) ?_ h2
  have e : x ++ y = mkS (cs x ++ cs y) := Str.ext' (by simp [Str.cps_append, mkS, cs])
  rw [e]
  exact SRep.str _ _
theorem foldl_strs (c : Array Nat) : ∀ (n : Nat) (acc : List Nat), ((List.replicate n c).foldl (· ++ ·) acc.toArray) = (acc ++ (List.replicate n c.toList).flatten).toArray
  | 0, acc => by simp
  | n + 1, acc => by
    rw [List.replicate_succ, List.foldl_cons]
    have : acc.toArray ++ c = (acc ++ c.toList).toArray := by simp
    rw [this, foldl_strs c n (acc ++ c.toList)]
    simp [List.replicate_succ]
theorem bin_mul_str {x : Str} {t u : Tok} {n : Int} {k : AV → Prop} {Q : Value → Shared → Prop} (h1 : 1 ≤ n) (h2 : (x.length : Int) * n ≤ 2 ^ 20) (h3 : n ≤ 2 ^ 20)
    (hs : ∀ v s' a, Keeps s s' → SRep v a → k (.sc a) → Q v s') (h4 : k (aS ((List.replicate n.toNat (cs x)).flatten))) : wpAny (model W.prog W.w) A (binaryOp .Mult (.str x t) (.int n u)) Q E s := by
  have hn : x.length * n.toNat ≤ 2 ^ 20 := by
    have : ((x.length * n.toNat : Nat) : Int) = (x.length : Int) * n := by rw [Int.natCast_mul, Int.toNat_of_nonneg (by omega)]
    omega
  refine SB.mul ⟨by simp; omega, fun _ _ hc => ?_, fun _ _ => ?_⟩ fun t' k' => ?_
  · have : (x.length : Int) ≤ (2 ^ 63 - 1) / n := by
      rw [Int.le_ediv_iff_mul_le (by omega)]
      omega
    omega
  · simp [Builtin.Str.tooLong, sizeLine]
    omega
  · refine hs _ _ _ (tok_keeps _) ?_ h4
    have e : Txt.mul x n = mkS ((List.replicate n.toNat (cs x)).flatten) := by
      unfold Txt.mul
      rw [if_neg (by omega)]
      split
      · rename_i hc
        simp only [Bool.or_eq_true, beq_iff_eq] at hc
        rcases hc with hc | hc
        · subst hc; simp [mkS_cs]
        · have : cs x = [] := List.length_eq_zero_iff.mp (by rw [len_cs]; exact hc)
          rw [← mkS_cs x, this]
          simp [cs_mkS]
      · have := foldl_strs x.cps n.toNat []
        simp only [List.nil_append] at this
        apply Str.ext'
        show List.foldl _ #[] _ = _
        rw [this]
    rw [e]; exact SRep.str _ _
theorem bin_lcat {l m : Addr} {xs ys : List SV} {k : AV → Prop} {Q : Value → Shared → Prop} (x : LRep s.heap l xs) (y : LRep s.heap m ys) (h : xs.length + ys.length ≤ 2 ^ 20) (hk : k (.list .tmp (xs ++ ys)))
    (hQ : Kp F own s k Q) : wpAny (model W.prog W.w) A (binaryOp .Add (.ref l) (.ref m)) Q E s := by
  obtain ⟨it, ⟨n, hp⟩, r⟩ := x
  obtain ⟨it', ⟨n', hp'⟩, r'⟩ := y
  refine P.add_list hp hp' ?_ (by simp only [List.size_toArray, r.length, r'.length, sizeLine]; omega)
  rw [List.append_toArray]
  exact hQ _ _ (.list .tmp _) (push_keeps _ _) ⟨_, rfl, fresh_top _, _, ⟨_, Heap.get?_push_size _ rfl⟩, r.append r'⟩ hk
theorem bin_lrep {l : Addr} {x : SV} {n : Int} {u : Tok} {k : AV → Prop} {Q : Value → Shared → Prop} (h : LRep s.heap l [x]) (h0 : 0 ≤ n) (h1 : n ≤ 2 ^ 20) (hk : k (.list .tmp (List.replicate n.toNat x)))
    (hQ : Kp F own s k Q) : wpAny (model W.prog W.w) A (binaryOp .Mult (.ref l) (.int n u)) Q E s := by
  obtain ⟨it, ⟨m, hp⟩, r⟩ := h
  obtain ⟨v, rfl, hv⟩ : ∃ v, it = [v] ∧ SRep v x := by
    cases r with
    | cons hv hr => cases hr; exact ⟨_, rfl, hv⟩
  refine mul_listP hp (by omega) (by omega) (by simp; omega) ?_
  refine hQ _ _ (.list .tmp _) (push_keeps _ _) ⟨_, rfl, fresh_top _, List.replicate n.toNat v, ⟨0, ?_⟩, Reps.rep1 hv _⟩ hk
  refine (Heap.get?_push_size _ rfl).trans ?_
  have e := foldl_rep v n.toNat []
  simp only [List.nil_append] at e
  simp only [List.isEmpty_toArray, List.isEmpty_cons, Bool.false_eq_true, if_false]
  rw [e]
theorem bin_sound {op : Operator} {a b : AV} {k : AV → Prop} {va vb : Value} {h₀ h₁ : Heap} {Q : Value → Shared → Prop} (h : binE op a b k) (ra : RRep F own h₀ s.heap va a) (rb : RRep F own h₁ s.heap vb b)
    (G : GW W s.heap) (R : Room A 0) (hQ : Kp F own s k Q) : wpAny (model W.prog W.w) A (binaryOp op va vb) Q E s := by
  have hs : ∀ v s' a, Keeps s s' → SRep v a → k (.sc a) → Q v s' := fun v s' a x y z => hQ v s' (.sc a) x y z
  have tk : ∀ n, Keeps s { s with toks := n } := fun n => tok_keeps n
  cases h with
  | add h => exact SRep.int2 (P := fun a b => wpAny _ _ (binaryOp _ a b) _ _ _) ra rb fun _ _ => add_int (hs _ _ _ (tk _) (SRep.int _ _) h)
  | sub h => exact SRep.int2 (P := fun a b => wpAny _ _ (binaryOp _ a b) _ _ _) ra rb fun _ _ => sub_int (hs _ _ _ (tk _) (SRep.int _ _) h)
  | subB h => exact SRep.boolC (P := fun a => wpAny _ _ (binaryOp _ a _) _ _ _) ra (SRep.boolC (P := fun a => wpAny _ _ (binaryOp _ _ a) _ _ _) rb (sub_bool (hs _ _ _ (tk _) (SRep.int _ _) h)))
  | mul h0 h => exact SRep.int2 (P := fun a b => wpAny _ _ (binaryOp _ a b) _ _ _) ra rb fun _ _ => mul_int (hm := h0) (hs _ _ _ (tk _) (SRep.int _ _) h)
  | fd h0 h => exact SRep.int2 (P := fun a b => wpAny _ _ (binaryOp _ a b) _ _ _) ra rb fun _ _ => floordiv_int h0 (hs _ _ _ (tk _) (SRep.int _ _) h) (.inr (pylong G R))
  | mod h0 h => exact SRep.int2 (P := fun a b => wpAny _ _ (binaryOp _ a b) _ _ _) ra rb fun _ _ => PyProof.Rows.mod_int' h0 (hs _ _ _ (tk _) (SRep.int _ _) h)
  | pow h0 h1 h => exact SRep.int2 (P := fun a b => wpAny _ _ (binaryOp _ a b) _ _ _) ra rb fun _ _ => pow_int h0 h1 (hs _ _ _ (tk _) (SRep.int _ _) h)
  | shl h0 h1 h => exact SRep.int2 (P := fun a b => wpAny _ _ (binaryOp _ a b) _ _ _) ra rb fun _ _ => lshift_int h0 h1 (hs _ _ _ (tk _) (SRep.int _ _) h)
  | shr h0 h => exact SRep.int2 (P := fun a b => wpAny _ _ (binaryOp _ a b) _ _ _) ra rb fun _ _ => rshift_int h0 (hs _ _ _ (tk _) (SRep.int _ _) h)
  | and h => exact SRep.int2 (P := fun a b => wpAny _ _ (binaryOp _ a b) _ _ _) ra rb fun _ _ => and_int (hs _ _ _ (tk _) (SRep.int _ _) h)
  | or h => exact SRep.int2 (P := fun a b => wpAny _ _ (binaryOp _ a b) _ _ _) ra rb fun _ _ => or_int (hs _ _ _ (tk _) (SRep.int _ _) h)
  | xor h => exact SRep.int2 (P := fun a b => wpAny _ _ (binaryOp _ a b) _ _ _) ra rb fun _ _ => xor_int (hs _ _ _ (tk _) (SRep.int _ _) h)
  | cat h0 h => exact SRep.str2 (P := fun a b => wpAny _ _ (binaryOp _ a b) _ _ _) ra rb fun _ _ => bin_add_str h0 h hs
  | rep h0 h1 h2 h => exact SRep.strC (P := fun a => wpAny _ _ (binaryOp _ a _) _ _ _) ra fun _ => SRep.intC (P := fun a => wpAny _ _ (binaryOp _ _ a) _ _ _) rb fun _ => bin_mul_str h0 h1 h2 hs h
  | lcat h0 h =>
    obtain ⟨l, rfl, x⟩ := ra.list
    obtain ⟨m, rfl, y⟩ := rb.list
    exact bin_lcat x y h0 h hQ
  | lrep h0 h1 h =>
    obtain ⟨l, rfl, x⟩ := ra.list
    exact SRep.intC (P := fun a => wpAny _ _ (binaryOp _ _ a) _ _ _) rb fun _ => bin_lrep x h0 h1 h hQ
end
end
section
open PySem PySem.W PyProof.Rows PySem.Calls PyProof.V PySem.Spec PySem.SeqAt

section
variable {A : Around} {E : Value → Shared → Prop} {s : Shared} {W : Wd} {F : Nat → Value → Prop} {own : Option Addr}

theorem eq_lists {a b : Addr} {xs ys : List SV} {Q : Value → Shared → Prop} (x : LRep s.heap a xs) (y : LRep s.heap b ys) (h : ((isInts xs && isInts ys) || (isStrs xs && isStrs ys)) = true) (R : Room A 0)
    (hQ : Q (.bool (decide (xs = ys))) s) : wpAny (model W.prog W.w) A (compareOp .Eq (.ref a) (.ref b)) Q E s := by
  have e := sameIS xs ys h
  have f : strsFine xs = true ∧ strsFine ys = true := by
    simp only [Bool.or_eq_true, Bool.and_eq_true] at h
    rcases h with h | h
    · exact ⟨strsFine_of _ (.inl h.1), strsFine_of _ (.inl h.2)⟩
    · exact ⟨strsFine_of _ (.inr h.1), strsFine_of _ (.inr h.2)⟩
  exact eq_dataH_same x.reads y.reads (shaped_toPy xs f.1) (shaped_toPy ys f.2) (by have := R.un; simp only [cLine]; omega) (by simp only [noMix]; exact e.1) (by simp only [PySem.Spec.same]; rw [e.2]; exact hQ)
theorem ne_lists {a b : Addr} {xs ys : List SV} {Q : Value → Shared → Prop} (x : LRep s.heap a xs) (y : LRep s.heap b ys) (h : ((isInts xs && isInts ys) || (isStrs xs && isStrs ys)) = true) (R : Room A 0)
    (hQ : Q (.bool (decide (xs ≠ ys))) s) : wpAny (model W.prog W.w) A (compareOp .NotEq (.ref a) (.ref b)) Q E s := by
  have e := sameIS xs ys h
  have f : strsFine xs = true ∧ strsFine ys = true := by
    simp only [Bool.or_eq_true, Bool.and_eq_true] at h
    rcases h with h | h
    · exact ⟨strsFine_of _ (.inl h.1), strsFine_of _ (.inl h.2)⟩
    · exact ⟨strsFine_of _ (.inr h.1), strsFine_of _ (.inr h.2)⟩
  refine ne_dataH_same x.reads y.reads (shaped_toPy xs f.1) (shaped_toPy ys f.2) (by have := R.un; simp only [cLine]; omega) (by simp only [noMix]; exact e.1) (by simp only [PySem.Spec.same]; rw [e.2, ← decide_not]; exact hQ)
theorem ne_tups {a b : Addr} {i j k l : Int} {Q : Value → Shared → Prop} (x : TRep s.heap a [.int i, .int j]) (y : TRep s.heap b [.int k, .int l]) (R : Room A 0)
    (hQ : Q (.bool (decide ¬(i = k ∧ j = l))) s) : wpAny (model W.prog W.w) A (compareOp .NotEq (.ref a) (.ref b)) Q E s := by
  refine ne_dataH_same x.reads y.reads (shaped_toPyT _ rfl) (shaped_toPyT _ rfl) (by have := R.un; simp only [cLine]; omega) (by simp [noMix, noMixAll, toPy]) ?_
  have e : (!PySem.Spec.same (PyData.tuple (List.map toPy [SV.int i, SV.int j])) (PyData.tuple (List.map toPy [SV.int k, SV.int l]))) = decide ¬(i = k ∧ j = l) := by
    simp only [PySem.Spec.same, PySem.Spec.sameAll, List.map, toPy, decide_not, Bool.and_true]
    congr 1
    rw [Bool.eq_iff_iff]
    simp
  rw [e]; exact hQ

theorem beqI (x y : Int) : (x == y) = decide (x = y) := by by_cases e : x = y <;> simp [e]
theorem bneI (x y : Int) : (x != y) = decide (x ≠ y) := by by_cases e : x = y <;> simp [e]
theorem cmp_sound {op : CmpOp} {a b : AV} {k : Bool → Prop} {va vb : Value} {h₀ h₁ : Heap} {Q : Value → Shared → Prop} (h : cmpE op a b k) (ra : RRep F own h₀ s.heap va a) (rb : RRep F own h₁ s.heap vb b)
    (R : Room A 0) (hQ : ∀ c, k c → Q (.bool c) s) : wpAny (model W.prog W.w) A (compareOp op va vb) Q E s := by
  cases h with
  | lt h => exact SRep.int2 (P := fun a b => wpAny _ _ (compareOp _ a b) _ _ _) ra rb fun _ _ => PyProof.Rows.lt_int (hQ _ h)
  | le h => exact SRep.int2 (P := fun a b => wpAny _ _ (compareOp _ a b) _ _ _) ra rb fun _ _ => PyProof.Rows.le_int (hQ _ h)
  | gt h => exact SRep.int2 (P := fun a b => wpAny _ _ (compareOp _ a b) _ _ _) ra rb fun _ _ => PyProof.Rows.gt_int (hQ _ h)
  | ge h => exact SRep.int2 (P := fun a b => wpAny _ _ (compareOp _ a b) _ _ _) ra rb fun _ _ => PyProof.Rows.ge_int (hQ _ h)
  | eq h => exact SRep.int2 (P := fun a b => wpAny _ _ (compareOp _ a b) _ _ _) ra rb fun _ _ => PyProof.Rows.eq_int (hQ _ (by rw [beqI]; exact h))
  | ne h => exact SRep.int2 (P := fun a b => wpAny _ _ (compareOp _ a b) _ _ _) ra rb fun _ _ => PyProof.Rows.ne_int (hQ _ (by rw [bneI]; exact h))
  | ltS h => exact SRep.str2 (P := fun a b => wpAny _ _ (compareOp _ a b) _ _ _) ra rb fun _ _ => PyProof.Rows.lt_str (hQ _ (by rw [← ltS_eq]; exact h))
  | gtS h => exact SRep.str2 (P := fun a b => wpAny _ _ (compareOp _ a b) _ _ _) ra rb fun _ _ => P.gt_str (hQ _ (by rw [← ltS_eq]; exact h))
  | eqL h0 h1 h2 h =>
    obtain ⟨l, rfl, x⟩ := ra.list
    obtain ⟨m, rfl, y⟩ := rb.list
    exact eq_lists x y h0 R (hQ _ h)
  | neL h0 h1 h2 h =>
    obtain ⟨l, rfl, x⟩ := ra.list
    obtain ⟨m, rfl, y⟩ := rb.list
    exact ne_lists x y h0 R (hQ _ h)
  | neT h =>
    obtain ⟨l, rfl, x⟩ := ra
    obtain ⟨m, rfl, y⟩ := rb
    exact ne_tups x y R (hQ _ h)

theorem neg_sound {a : AV} {k : AV → Prop} {va : Value} {h₀ : Heap} {Q : Value → Shared → Prop} (h : negE a k) (ra : RRep F own h₀ s.heap va a)
    (hQ : ∀ v s' r, Keeps s s' → RRep F own s.heap s'.heap v r → k r → Q v s') : wpAny (model W.prog W.w) A (unaryOp .USub va) Q E s := by
  cases h with
  | int h => exact SRep.intC (P := fun a => wpAny _ _ (unaryOp _ a) _ _ _) ra fun _ => PyProof.Rows.neg_int (hQ _ _ (aI _) (tok_keeps _) (SRep.int _ _) h)

theorem tru_sound {a : AV} {k : Bool → Prop} {va : Value} {h₀ : Heap} {Q : Bool → Shared → Prop} (h : truE a k) (ra : RRep F own h₀ s.heap va a)
    (hQ : ∀ c s', Keeps s s' → k c → Q c s') : wpAny (model W.prog W.w) A (truthy va) Q E s := by
  cases h with
  | bool h => exact SRep.boolC (P := fun a => wpAny _ _ (truthy a) _ _ _) ra (wpAny_truthy_bool (hQ _ _ (Keeps.refl' s) h))
  | int h => exact SRep.intC (P := fun a => wpAny _ _ (truthy a) _ _ _) ra fun _ => PyProof.Rows.truthy_int (hQ _ _ (Keeps.refl' s) (by rw [bneI]; exact h))
  | list h0 h =>
    rename_i t vs
    obtain ⟨l, rfl, it, ⟨n, hp⟩, r⟩ := ra.list
    have hl := r.length
    have e : (!it.toArray.isEmpty) = decide (vs ≠ []) := by
      cases it with
      | nil => cases vs with
        | nil => rfl
        | cons _ _ => simp at hl
      | cons _ _ => cases vs with
        | nil => simp at hl
        | cons _ _ => simp
    refine wpAny_truthy_list ⟨_, hp, rfl, _, rfl⟩ (by simp only [List.size_toArray, hl]; omega) (hQ _ _ (tok_keeps _) ?_)
    rw [e]; exact h
end
end
section
open PySem PySem.W PyProof.Rows PySem.Calls PyProof.V PySem.Spec PySem.SeqAt

theorem subscripted_plain {slice : Expr} {o i : Value} (h : notSlice slice = true) : subscripted slice false o i = operate [o, i] (getItem o i) := by
  cases slice <;> first | rfl | cases h

section
variable {prog : Program} {w : World} {A : Around} {E : Value → Shared → Prop} {s : Shared} {env : Env}
/-- an item taken -/
theorem sub_rule {value slice : Expr} {pos : Pos} {Q : Value → Shared → Prop} (hns : notSlice slice = true)
    (h : wpAny (model prog w) A (eval value env) (fun o s₁ => wpAny (model prog w) A (eval slice env) (fun i s₂ => SubscriptOn (model prog w) A o i Q E s₂) E s₁) E s) :
    wpAny (model prog w) A (eval (.Subscript value slice pos) env) Q E s := by
  rw [eval_Subscript]
  refine wpAny_bind (wpAny_mono h (fun o s₁ h₁ => wpAny_bind (wpAny_holding (wpAny_mono h₁ (fun i s₂ h₂ => wpAny_bind (wpAny_standAt ?_)) fun _ _ x => x))) fun _ _ x => x)
  obtain ⟨T, id, hl, hT, hg⟩ := h₂
  refine wpAny_bind ?_
  rw [getitemInPython_of_ne hT.not_modules]
  refine wpAny_bind (wpAny_specialOf hT hl ?_)
  have fin : wpAny (model prog w) A (subscripted slice false o i) (fun r s₃ => wpAny (model prog w) A (letTemporaryGo value o r >>= fun _ => pure r) Q E s₃) E s₂ := by
    rw [subscripted_plain hns]
    exact wpAny_operating (wpAny_mono hg (fun r s₃ h₃ => wpAny_bind (wpAny_letTemporaryGo (wpAny_pure h₃))) fun _ _ x => x)
  first
    | exact wpAny_pure (wpAny_bind fin)
    | exact wpAny_bind (wpAny_pure (wpAny_bind fin))
    | exact wpAny_bind fin
/-- a slice taken -/
theorem slice_rule {value : Expr} {lower upper step : Option Expr} {p pos : Pos} {Q : Value → Shared → Prop}
    (h : wpAny (model prog w) A (eval value env) (fun o s₁ => wpAny (model prog w) A (eval (.Slice lower upper step p) env) (fun i s₂ => ∃ T id, typeLookup (.type T) "__getitem__" = pure (some (.builtin id)) ∧ s₂.TypeIs o T ∧ wpAny (model prog w) A (getItem o i) Q E s₂) E s₁) E s) :
    wpAny (model prog w) A (eval (.Subscript value (.Slice lower upper step p) pos) env) Q E s := by
  rw [eval_Subscript]
  refine wpAny_bind (wpAny_mono h (fun o s₁ h₁ => wpAny_bind (wpAny_holding (wpAny_mono h₁ (fun i s₂ h₂ => wpAny_bind (wpAny_standAt ?_)) fun _ _ x => x))) fun _ _ x => x)
  obtain ⟨T, id, hl, hT, hg⟩ := h₂
  refine wpAny_bind ?_
  rw [getitemInPython_of_ne hT.not_modules]
  refine wpAny_bind (wpAny_specialOf hT hl ?_)
  have fin : wpAny (model prog w) A (subscripted (.Slice lower upper step p) false o i) (fun r s₃ => wpAny (model prog w) A (letTemporaryGo value o r >>= fun _ => pure r) Q E s₃) E s₂ := by
    cases step with
    | none => exact wpAny_operating (wpAny_mono hg (fun r s₃ h₃ => wpAny_bind (wpAny_letTemporaryGo (wpAny_pure h₃))) fun _ _ x => x)
    | some st => exact wpAny_operating (wpAny_mono hg (fun r s₃ h₃ => wpAny_bind (wpAny_letTemporaryGo (wpAny_pure h₃))) fun _ _ x => x)
  first
    | exact wpAny_pure (wpAny_bind fin)
    | exact wpAny_bind (wpAny_pure (wpAny_bind fin))
    | exact wpAny_bind fin
end

section
variable {A : Around} {E : Value → Shared → Prop} {s : Shared} {W : Wd} {F : Nat → Value → Prop} {own : Option Addr}
theorem getItem_strS {x : Str} {t u : Tok} {i : Int} {c : Nat} {Q : Value → Shared → Prop} (h1 : 0 ≤ i) (h2 : i < 2 ^ 40) (hc : (cs x)[i.toNat]? = some c) (hQ : Q (.str (mkS [c]) s.toks) { s with toks := s.toks + 1 }) :
    SubscriptOn (model W.prog W.w) A (.str x t) (.int i u) Q E s := by
  have hlt : i.toNat < x.length := by
    have := (List.getElem?_eq_some_iff.mp hc).1
    rwa [len_cs] at this
  refine ⟨"str", _, F.slot_str_getitem.lookup, typeIs_str _ _ _, P.getItem_str (c := c) (by simp; omega) ?_ hQ⟩
  unfold seqIndex?
  rw [if_neg (by omega : ¬ i < 0)]
  have : (decide (0 ≤ i) && decide (i < (x.length : Int))) = true := by simp; omega
  rw [if_pos (by simpa using this)]
  simpa using hc
theorem getItem_sound {a b : AV} {k : AV → Prop} {va vb : Value} {h₀ h₁ : Heap} {Q : Value → Shared → Prop} (h : subE a b k) (ra : RRep F own h₀ s.heap va a) (rb : RRep F own h₁ s.heap vb b)
    (hQ : ∀ v s' r, Keeps s s' → SRep v r → k (.sc r) → Q v s') : SubscriptOn (model W.prog W.w) A va vb Q E s := by
  cases h with
  | list h =>
    obtain ⟨l, rfl, it, ⟨n, hp⟩, r⟩ := ra.list
    obtain ⟨h1, h2, a, ha, hk⟩ := h
    obtain ⟨v, hv, hs⟩ := r.get _ _ ha
    exact SRep.intC (P := fun a => SubscriptOn _ _ _ a _ _ _) rb fun _ => ⟨"list", _, slot_list_getitem.lookup, ⟨_, hp, rfl⟩, wpAny_getItem_list ⟨_, hp, rfl, _, rfl⟩ h1 (by omega) (by simpa using hv) (hQ _ _ _ (Keeps.refl' s) hs hk)⟩
  | str h =>
    obtain ⟨h1, h2, c, hc, hk⟩ := h
    exact SRep.strC (P := fun a => SubscriptOn _ _ a _ _ _ _) ra fun _ => SRep.intC (P := fun a => SubscriptOn _ _ _ a _ _ _) rb fun _ => getItem_strS h1 h2 hc (hQ _ _ (.str (mkS [c])) (tok_keeps _) (SRep.str _ _) hk)

theorem keeps2 (s : Shared) (o o' : Obj) : Keeps s { s with heap := (s.heap.push o).push o' } := ⟨_, s.toks, rfl, fun _ _ e => Heap.get?_push_of_some _ (Heap.get?_push_of_some _ e)⟩
theorem fresh_push (h : Heap) (o : Obj) : h.get? (h.push o).objs.size = none := Heap.get?_none_of_le (by rw [Heap.size_push]; omega)
theorem _root_.Mine.Reps.take {vs as} (h : Reps vs as) : ∀ n : Nat, Reps (vs.take n) (as.take n) := by
  induction h with
  | nil => intro n; simp; exact .nil
  | cons a _ ih =>
    intro n
    cases n with
    | zero => exact .nil
    | succ n => exact .cons a (ih n)
theorem _root_.Mine.Reps.reverse {vs as} (h : Reps vs as) : Reps vs.reverse as.reverse := by
  induction h with
  | nil => exact .nil
  | cons a _ ih => simp only [List.reverse_cons]; exact ih.append (.cons a .nil)
theorem slice_strS {x : Str} {t : Tok} {lo hi : Option Int} {k : AV → Prop} {vl vu : Value} {Q : Value → Shared → Prop} (h1 : 0 ≤ lo.getD 0) (h2 : lo.getD 0 ≤ hi.getD x.length) (h3 : hi.getD x.length ≤ x.length) (h4 : x.length ≤ 2 ^ 20) (h5 : lo ≠ none ∨ hi ≠ none)
    (hk : k (aS (((cs x).drop (lo.getD 0).toNat).take ((hi.getD x.length) - lo.getD 0).toNat))) (pl : IsPart vl lo) (pu : IsPart vu hi)
    (hQ : ∀ v s' r, Keeps s s' → RRep F own s.heap s'.heap v r → k r → Q v s') :
    ∃ T id, typeLookup (.type T) "__getitem__" = pure (some (.builtin id)) ∧ s.TypeIs (.str x t) T ∧
      wpAny (model W.prog W.w) A (getItem (.str x t) (.ref s.heap.objs.size)) Q E
        { s with heap := s.heap.push { cls := .type "slice", data := .fields #[vl, vu, .none] } } := by
  have push : ∀ (h : Heap) (ob : Obj), (∀ b o, s.heap.get? b = some o → h.get? b = some o) → (∀ b o, s.heap.get? b = some o → (h.push ob).get? b = some o) := fun h ob y b o e => Heap.get?_push_of_some _ (y b o e)
  have fin : ∀ (y : Str), y = mkS (((cs x).drop (lo.getD 0).toNat).take ((hi.getD x.length) - lo.getD 0).toNat) → ∀ h' t' k', (∀ b o, s.heap.get? b = some o → h'.get? b = some o) →
      Q (.str y t') { s with heap := h', toks := k' } := fun y e h' t' k' kk => by
    subst e
    exact hQ _ _ (aS _) ⟨h', k', rfl, kk⟩ (SRep.str _ _) hk
  have hsz : x.length ≤ sizeLine := Nat.le_trans h4 (by simp [sizeLine])
  cases pl with
  | none =>
    cases pu with
    | none => exact absurd h5 (by simp)
    | int j uj =>
      obtain ⟨T, id, e1, e2, e3⟩ := SBH.sliceItem_ns (prog := W.prog) (w := W.w) (A := A) (E := E) (s := s) (x := x) (t := t) (j := j) (uj := uj) push (fun _ _ e => e)
        (fin _ (by rw [beq_iff_eq.mp (slice_closes_to (x := x) (j := j) ⟨by simpa using Int.le_trans h1 h2, by simp only [Option.getD] at h3; rw [show x.cps.toList.length = x.length from len_cs x]; exact h3⟩)]; rfl)) hsz
      exact ⟨T, id, e1, e2, e3⟩
  | int i ui =>
    cases pu with
    | none =>
      obtain ⟨T, id, e1, e2, e3⟩ := SBH.sliceItem_sn (prog := W.prog) (w := W.w) (A := A) (E := E) (s := s) (x := x) (t := t) (i := i) (ui := ui) push (fun _ _ e => e)
        (fin _ (slice_from_eq (b := (x.length : Int)) (by simpa using h1) (by simpa using h2) rfl)) hsz
      exact ⟨T, id, e1, e2, e3⟩
    | int j uj =>
      obtain ⟨T, id, e1, e2, e3⟩ := SBH.sliceItem_ss (prog := W.prog) (w := W.w) (A := A) (E := E) (s := s) (x := x) (t := t) (i := i) (ui := ui) (j := j) (uj := uj) push (fun _ _ e => e)
        (fin _ (beq_iff_eq.mp (slice_closes (x := x) ⟨by simpa using h1, by simpa using h2, by rw [show x.cps.toList.length = x.length from len_cs x]; simpa using h3⟩))) hsz
      exact ⟨T, id, e1, e2, e3⟩

theorem slice_listU {l : Addr} {it : List Value} {n : Nat} {vs : List SV} {hi : Int} {uj : Tok} {k : AV → Prop} {Q : Value → Shared → Prop} (hp : s.heap.get? l = some { cls := .type "list", data := .seq it.toArray n }) (r : Reps it vs)
    (h1 : 0 ≤ hi) (h2 : hi ≤ vs.length) (h3 : vs.length ≤ 2 ^ 20) (hk : k (.list .tmp (vs.take hi.toNat)))
    (hQ : ∀ v s' r, Keeps s s' → RRep F own s.heap s'.heap v r → k r → Q v s') :
    ∃ T id, typeLookup (.type T) "__getitem__" = pure (some (.builtin id)) ∧ s.TypeIs (.ref l) T ∧
      wpAny (model W.prog W.w) A (getItem (.ref l) (.ref s.heap.objs.size)) Q E
        { s with heap := s.heap.push { cls := .type "slice", data := .fields #[.none, .int hi uj, .none] } } := by
  have hl : ({ s with heap := s.heap.push { cls := .type "slice", data := .fields #[.none, .int hi uj, .none] } } : Shared).heap.IsList l it.toArray := ⟨_, Heap.get?_push_of_some _ hp, rfl, _, rfl⟩
  refine ⟨"list", _, list_getitem_lookup, ⟨_, hp, rfl⟩, wpAny_getItem_list_slice hl (Heap.IsSliceOf.new ..) .none (.int _ _) .none (by simp) ?_ (by simp only [List.size_toArray, r.length, sizeLine]; omega)⟩
  rw [show (some hi : Option Int) = some ((hi.toNat : Nat) : Int) by rw [Int.toNat_of_nonneg h1], slicePick_upto _ _ (by simp only [List.size_toArray, r.length]; omega)]
  exact hQ _ _ (.list .tmp (vs.take hi.toNat)) (keeps2 _ _ _) ⟨_, rfl, fresh_push _ _, _, ⟨0, Heap.get?_push_size _ rfl⟩, r.take _⟩ hk
theorem slice_listR {l : Addr} {it : List Value} {n : Nat} {vs : List SV} {uj : Tok} {k : AV → Prop} {Q : Value → Shared → Prop} (hp : s.heap.get? l = some { cls := .type "list", data := .seq it.toArray n }) (r : Reps it vs)
    (h3 : vs.length ≤ 2 ^ 20) (hk : k (.list .tmp vs.reverse))
    (hQ : ∀ v s' r, Keeps s s' → RRep F own s.heap s'.heap v r → k r → Q v s') :
    ∃ T id, typeLookup (.type T) "__getitem__" = pure (some (.builtin id)) ∧ s.TypeIs (.ref l) T ∧
      wpAny (model W.prog W.w) A (getItem (.ref l) (.ref s.heap.objs.size)) Q E
        { s with heap := s.heap.push { cls := .type "slice", data := .fields #[.none, .none, .int (-1) uj] } } := by
  have hl : ({ s with heap := s.heap.push { cls := .type "slice", data := .fields #[.none, .none, .int (-1) uj] } } : Shared).heap.IsList l it.toArray := ⟨_, Heap.get?_push_of_some _ hp, rfl, _, rfl⟩
  refine ⟨"list", _, list_getitem_lookup, ⟨_, hp, rfl⟩, wpAny_getItem_list_slice hl (Heap.IsSliceOf.new ..) .none .none (.int _ _) (by simp) ?_ (by simp only [List.size_toArray, r.length, sizeLine]; omega)⟩
  rw [PySem.W.krv_pick]
  exact hQ _ _ (.list .tmp vs.reverse) (keeps2 _ _ _) ⟨_, rfl, fresh_push _ _, _, ⟨0, Heap.get?_push_size _ rfl⟩, r.reverse⟩ hk
theorem slice_sound {a : AV} {lo hi st : Option Int} {k : AV → Prop} {va vl vu vt : Value} {h₀ : Heap} {Q : Value → Shared → Prop}
    (h : sliceE a lo hi st k) (ra : RRep F own h₀ s.heap va a) (pl : IsPart vl lo) (pu : IsPart vu hi) (pt : IsPart vt st)
    (hQ : ∀ v s' r, Keeps s s' → RRep F own s.heap s'.heap v r → k r → Q v s') :
    ∃ T id, typeLookup (.type T) "__getitem__" = pure (some (.builtin id)) ∧ s.TypeIs va T ∧
      wpAny (model W.prog W.w) A (getItem va (.ref s.heap.objs.size)) Q E
        { s with heap := s.heap.push { cls := .type "slice", data := .fields #[vl, vu, vt] } } := by
  cases h with
  | str h =>
    cases ra; cases pt
    obtain ⟨h1, h2, h3, h4, h5, hk⟩ := h
    exact slice_strS h1 h2 h3 h4 h5 hk pl pu hQ
  | upto h =>
    obtain ⟨l, rfl, it, ⟨n, hp⟩, r⟩ := ra.list
    cases pl; cases pt; cases pu
    exact slice_listU hp r h.1 h.2.1 h.2.2.1 h.2.2.2 hQ
  | rev h =>
    obtain ⟨l, rfl, it, ⟨n, hp⟩, r⟩ := ra.list
    cases pl; cases pu; cases pt
    exact slice_listR hp r h.1 h.2 hQ
end
end
section
open PySem PySem.W PyProof.Rows PySem.Calls PyProof.V PySem.Spec PySem.SeqAt

noncomputable def Callee (W : Wd) (v : Value) : Prop :=
  (∃ id, v = .builtin id) ∨ (∃ T, v = .type T) ∨ (∃ f o fd, v = .ref f ∧ W.g.get? f = some o ∧ o.data = .func fd)

structure FnOk (W : Wd) (sg : Sig) (v : Value) : Prop where
  callee : Callee W v
  run : ∀ (A : Around) (s : Shared) (vs : List Value) (as : List AV) (k : AV → Prop) (Q E : Value → Shared → Prop), Room A sg.lv → GW W s.heap → AReps s.heap vs as → sg.φ as k →
    (∀ r s' a, Ex W sg.ub s s' → Ans s.heap s'.heap r a → k a → Q r s') → wpAny (model W.prog W.w) A (call v vs) Q E s

/-- what is read -/
structure RS (W : Wd) (S : Nat → Sig) (env : Env) (own : Option Addr) (ρ : Loc) (h : Heap) : Prop where
  gw : GW W h
  var : ∀ x a, look x ρ = some a → ∃ v, Rd W env h x v ∧ VRep (fun k v => FnOk W (S k) v) own h v a
  ow : ∀ l, own = some l → ∃ o it n, h.get? l = some o ∧ o.cls = .type "list" ∧ o.data = .seq it n
theorem RS.ext {W : Wd} {S : Nat → Sig} {env : Env} {own : Option Addr} {ρ : Loc} {s s' : Shared} (x : RS W S env own ρ s.heap) (e : ExtU W s s') : RS W S env own ρ s'.heap :=
  ⟨x.gw.ext e, fun y a h => let ⟨v, r, p⟩ := x.var y a h; ⟨v, r.ext x.gw.tok e, p.ext x.gw.tok e⟩, fun l h => let ⟨o, it, n, ho, hc, hd⟩ := x.ow l h; ⟨o, it, n, keepObj e x.gw.tok ho (by rw [hc]; nofun), hc, hd⟩⟩

theorem star_plain {e : Expr} {rest : List Expr} {env : Env} (h : ∀ v p, e ≠ .Starred v p) : starEach (e :: rest) env = (false, eval e env) :: starEach rest env := by
  cases e <;> first | rfl | exact absurd rfl (h _ _)
theorem star_any {env : Env} {pos : Pos} : ∀ {es : List Expr}, noStar es = true → (backTo pos (starEach es env)).any (·.1) = false
  | [], _ => rfl
  | e :: r, h => by
    obtain ⟨h1, h2⟩ := Bool.and_eq_true_iff.mp (show (!isStar e && noStar r) = true from h)
    rw [star_plain (not_star (by simpa using h1))]
    show (false || (backTo pos (starEach r env)).any (·.1)) = false
    rw [star_any h2]; rfl

theorem attr_plain {o : Expr} {nm : Str} {env : Env} {t : Sem Value} (h : ∀ f p q, o ≠ .Call (.Name f p) [] [] q) : attributeBase o nm env t = t := by
  cases o with
  | Call f a k p =>
    cases f with
    | Name id q =>
      cases a with
      | cons => rfl
      | nil =>
        cases k with
        | cons => rfl
        | nil => exact absurd rfl (h _ _ _)
    | _ => rfl
  | _ => rfl

section
variable {A : Around} {E : Value → Shared → Prop} {s : Shared} {W : Wd} {F : Nat → Value → Prop} {own : Option Addr}

theorem meth_bits {i : Int} {t : Tok} {pos : Pos} {k : AV → Prop} {Q : Value → Shared → Prop} (h : k (aI (Builtin.Int.intBits i : Nat)))
    (hs : ∀ v s' a, Keeps s s' → SRep v a → k (.sc a) → Q v s') : MethodOnS W.prog W.w A E (Str.ofString "bit_length") (.int i t) pos [] Q s :=
  ⟨"int", _, PySem.F.plainAttrs_int, PySem.F.slot_int_bit_length, PySem.F.type_int_bit_length, typeIs_int _ _ _, (fun _ e => nomatch e),
    method0_gives PySem.F.slot_int_bit_length PySem.F.entry_int_bit_length (typeIs_int _ _ _) (PySem.F.args_int_bit_length_1 _) (AutoIntG2.int_bit_length_int_0 i t) (hs _ _ _ (tok_keeps _) (SRep.int _ _) h)⟩

theorem strs_are {vs : List Value} {as : List SV} {ys : List Str} (x : Reps vs as) (h : strsOf as = some ys) : StrsAre vs ys := by
  induction x generalizing ys with
  | nil => cases h; exact .nil
  | cons hv hr ih =>
    rename_i v a vs as
    cases a with
    | str y =>
      obtain ⟨zs, hz, rfl⟩ := Option.map_eq_some_iff.mp h
      exact SRep.strC (P := fun v => StrsAre (v :: _) _) hv fun _ => .cons _ _ (ih hz)
    | _ => cases h
theorem sumLen_eq : ∀ ys : List Str, sumLen ys = (ys.map (·.length)).sum
  | [] => rfl
  | y :: r => by simp [sumLen, sumLen_eq r]
theorem join_empty : ∀ ys : List Str, cs (Str.join (mkS []) ys) = ys.flatMap cs
  | [] => rfl
  | [y] => by simp [Str.join]
  | y :: z :: r => by
    rw [Str.join]
    · have ih := join_empty (z :: r)
      simp only [List.flatMap_cons] at ih ⊢
      rw [← ih]
      simp [cs, Str.cps_append]
    · simp
theorem meth_join {t : Tok} {pos : Pos} {e : Sem Value} {k : AV → Prop} {Q : Value → Shared → Prop}
    (h : wpAny (model W.prog W.w) A e (fun v s₁ => ∃ vs ys l, strsOf vs = some ys ∧ sumLen ys ≤ 2 ^ 20 ∧ vs.length ≤ 2 ^ 20 ∧ k (aS (ys.flatMap cs)) ∧ v = .ref l ∧ LRep s₁.heap l vs ∧ ∀ v s' a, Keeps s₁ s' → SRep v a → k (.sc a) → Q v s') E s) :
    MethodOnS W.prog W.w A E (Str.ofString "join") (.str (mkS []) t) pos [(false, e)] Q s := by
  refine ⟨"str", _, PySem.F.plainAttrs_str, PySem.F.slot_str_join, PySem.F.type_str_join, typeIs_str _ _ _, (fun _ e => nomatch e), ?_⟩
  refine callWith_builtin rfl (evalArgs_plain (spliced_cons (wpAny_mono h (fun v s₁ h₁ => spliced_nil ?_) fun _ _ x => x)))
  obtain ⟨vs, ys, l, hy, h1, h2, hk, rfl, ⟨it, ⟨n, hp⟩, r⟩, hs⟩ := h₁
  refine PyProof.Rows.join_list (ys := ys) ⟨_, hp, rfl, _, rfl⟩ (by simpa using strs_are r hy) ?_ fun t' k' => hs _ _ _ (tok_keeps _) ?_ hk
  · rw [← sumLen_eq]
    show _ + ys.length * 0 ≤ _
    omega
  · have e : Txt.join (mkS []) ys = mkS (ys.flatMap cs) := by
      rw [← join_empty, mkS_cs]
      exact StrLaws.glued_eq_join _ _
    rw [e]; exact SRep.str _ _

theorem occ_one {x : Str} {c i : Nat} (hi : (cs x)[i]? = some c) (hm : ∀ j < i, (cs x)[j]? ≠ some c) : ∃ r, PySem.Builtin.Str.occurrences x (mkS [c]) 0 x.length 1 = i :: r := by
  have key : ∀ j, StrLaws.At x (mkS [c]) x.length j ↔ (cs x)[j]? = some c := fun j => StrLaws.subAt_one x c j
  rcases StrLaws.occ_head_from x (mkS [c]) 0 1 (Nat.le_refl _) with ⟨_, hn⟩ | ⟨j, r, e, _, ha, hn⟩
  · exact absurd ((key i).mpr hi) (hn i (Nat.zero_le _))
  · refine ⟨r, ?_⟩
    have h1 : ¬ j < i := fun h => hm j h ((key j).mp ha)
    have h2 : ¬ i < j := fun h => hn i (Nat.zero_le _) h ((key i).mpr hi)
    have : j = i := by omega
    rw [e, this]
theorem meth_index {x : Str} {t : Tok} {pos : Pos} {e : Sem Value} {k : AV → Prop} {Q : Value → Shared → Prop}
    (h : wpAny (model W.prog W.w) A e (fun v s₁ => ∃ c i u, (cs x)[i]? = some c ∧ (∀ j < i, (cs x)[j]? ≠ some c) ∧ k (aI (i : Nat)) ∧ v = .str (mkS [c]) u ∧ ∀ v s' a, Keeps s₁ s' → SRep v a → k (.sc a) → Q v s') E s) :
    MethodOnS W.prog W.w A E (Str.ofString "index") (.str x t) pos [(false, e)] Q s := by
  refine SB.index (wpAny_mono h (fun v s₁ h₁ => ?_) fun _ _ x => x)
  obtain ⟨c, i, u, hi, hm, hk, rfl, hs⟩ := h₁
  obtain ⟨r, ho⟩ := occ_one hi hm
  exact ⟨_, _, rfl, i, r, ho, hs _ _ _ (tok_keeps _) (SRep.int _ _) hk⟩
end
end
section
open PySem PySem.W PyProof.Rows PySem.Calls PyProof.V PySem.Spec PySem.SeqAt

noncomputable def IterObj (o : Obj) : Prop := Mut o ∧ ∃ vs, o.data = .fields vs

theorem lt_of_some {h : Heap} {a : Addr} {o : Obj} (e : h.get? a = some o) : a < h.objs.size := Heap.lt_size e

theorem rangeSize1 {n : Int} (h : 0 ≤ n) : Builtin.Range.rangeSize 0 n 1 = n := by
  unfold Builtin.Range.rangeSize
  split
  · split
    · simp
    · omega
  · rename_i h; exact absurd (by decide) h
theorem small_range {n : Int} (h : 0 ≤ n) (h' : n ≤ 2 ^ 20) : Builtin.Range.small 0 n 1 = true := by
  have e := rangeSize1 h
  simp [Builtin.Range.small, e, Builtin.Range.rangeFitsLong]
  omega

section
variable {A : Around} {E : Value → Shared → Prop} {s : Shared} {W : Wd} {F : Nat → Value → Prop} {own : Option Addr}

noncomputable def isOwn : AV → Bool
  | .list .own _ => true
  | .rev .own _ => true
  | .rev .tmp _ => true
  | _ => false
/-- the places that an iterator hands out -/
structure Itr (W : Wd) (A : Around) (own : Option Addr) (a : AV) (h₀ : Heap) (vs : List SV) (it : Value) (h : Heap) : Prop where
  ex : ∃ I fp P St, (∀ b ∈ fp, b = I ∨ ((∃ o, h.get? b = some o ∧ o.cls = .type "list" ∧ ∃ it n, o.data = .seq it n) ∧ (isOwn a = false → own ≠ some b))) ∧ it = .ref I ∧ h₀.get? I = none ∧ Walks W.prog W.w A I fp [I] vs.length P St ∧ St 0 h ∧ (∀ b ∈ fp, b < h.objs.size) ∧
    (∀ j v, P j v → ∃ a, vs[j]? = some a ∧ SRep v a) ∧ (∀ i h', St i h' → ∃ o, h'.get? I = some o ∧ IterObj o)

theorem iter_sound {a : AV} {vs : List SV} {xv : Value} {s₀ : Shared} {Q : Value → Shared → Prop} (ra : RRep F own s₀.heap s.heap xv a) (hv : iterV a = some vs) (hh : A.handled = none) (hx : ExtU W s₀ s) (ht : W.TOk s₀.heap) (how : ∀ l, own = some l → ∃ o, s₀.heap.get? l = some o)
    (hQ : ∀ it s', Keeps s s' → Itr W A own a s₀.heap vs it s'.heap → Q it s') : wpAny (model W.prog W.w) A (pyIter xv) Q E s := by
  have fresh : s₀.heap.get? s.heap.objs.size = none := none_back (fresh_top _) ht hx
  cases a with
  | list tg ws =>
    simp only [iterV, Option.some.injEq] at hv
    subst hv
    obtain ⟨l, rfl, it, ⟨n, hp⟩, r⟩ := ra.list
    have hown : isOwn (.list tg ws) = false → own ≠ some l := by
      intro hq e
      cases tg with
      | own => cases hq
      | shr => obtain ⟨l', e', h1, _⟩ := ra; cases e'; exact h1 e
      | tmp => obtain ⟨l', e', h1, _⟩ := ra; cases e'; obtain ⟨o, ho⟩ := how l e; rw [h1] at ho; cases ho
    have hl : s.heap.IsList l it.toArray := ⟨_, hp, rfl, _, rfl⟩
    have hne : l ≠ s.heap.objs.size := Nat.ne_of_lt (lt_of_some hp)
    refine wpAny_pyIter_list hl (hQ _ _ (push_keeps _ _) ⟨_, [s.heap.objs.size, l], (fun i v => it.toArray[i]? = some v), (fun i h => h.IsListIter s.heap.objs.size l i ∧ h.IsList l it.toArray), ?_, rfl, fresh, ?_, ?_, ?_, ?_, ?_⟩)
    · intro b hb
      simp only [List.mem_cons, List.not_mem_nil, or_false] at hb
      rcases hb with hb | hb
      · exact .inl hb
      · subst hb
        exact .inr ⟨⟨_, Heap.get?_push_of_some _ hp, rfl, _, _, rfl⟩, hown⟩
    · have := Walks.list (prog := W.prog) (w := W.w) hh s.heap.objs.size l hne it.toArray
      rw [show it.toArray.size = ws.length by simp [r.length]] at this
      exact this
    · exact ⟨⟨_, Heap.get?_push_size _ rfl, rfl, rfl⟩, hl.push _⟩
    · intro b hb
      simp only [List.mem_cons, List.not_mem_nil, or_false] at hb
      show b < (s.heap.push _).objs.size
      rw [Heap.size_push]
      rcases hb with hb | hb
      · rw [hb]; exact Nat.lt_succ_self _
      · rw [hb]; exact Nat.lt_succ_of_lt (lt_of_some hp)
    · intro j v hj
      simp only [List.getElem?_toArray] at hj
      exact r.get' j v hj
    · rintro i h' ⟨⟨o, ho, hc, hd⟩, _⟩
      refine ⟨o, ho, fun vs hvs => ?_, _, hd⟩
      rw [hd] at hvs; cases hvs
      exact ⟨by rw [hc]; nofun, by intro x t; simp⟩
  | rng n =>
    simp only [iterV, Option.some.injEq] at hv
    subst hv
    obtain ⟨h1, h2, r, t, u, w, rfl, hr⟩ := ra
    refine wpAny_pyIter_range hr (small_range h1 h2) (hQ _ _ (push_keeps _ _) ⟨_, [s.heap.objs.size], (fun i v => i < n.toNat ∧ ∃ t, v = .int (0 + i * 1) t), (fun i h => IsRangeIter h s.heap.objs.size (0 + (i : Nat) * 1) ((n.toNat : Int) - (i : Nat)) 1), ?_, rfl, fresh, ?_, ?_, ?_, ?_, ?_⟩)
    · intro b hb
      simp only [List.mem_cons, List.not_mem_nil, or_false] at hb
      exact .inl hb
    · have W' := Walks.range (prog := W.prog) (w := W.w) hh s.heap.objs.size 0 1 n.toNat
      have e : (List.map (fun (i : Nat) => SV.int (i : Int)) (List.range n.toNat)).length = n.toNat := by simp
      rw [e]
      exact { sub := W'.sub, frame := W'.frame, item := fun i s Q E hi st hq => W'.item i s Q E hi st fun v h' tk hp st' hk => hq v h' tk ⟨hi, hp⟩ st' hk, done := W'.done, self := W'.self }
    · rw [rangeSize1 h1]
      show ({ s with heap := s.heap.push _ } : Shared).heap.get? _ = _
      refine (Heap.get?_push_size _ rfl).trans ?_
      simp [rawInt, Int.toNat_of_nonneg h1]
    · intro b hb
      simp only [List.mem_cons, List.not_mem_nil, or_false] at hb
      show b < (s.heap.push _).objs.size
      rw [Heap.size_push, hb]; exact Nat.lt_succ_self _
    · rintro j v ⟨hj, t, rfl⟩
      refine ⟨.int j, by simp [hj], ?_⟩
      have : (0 + (j : Int) * 1) = (j : Int) := by omega
      rw [this]
      exact SRep.int _ _
    · intro i h' ho
      refine ⟨_, ho, fun vs hvs => ?_, _, rfl⟩
      cases hvs
      exact ⟨nofun, by intro x t; simp [rawInt]⟩
  | rev tg ws =>
    simp only [iterV, Option.some.injEq] at hv
    subst hv
    obtain ⟨I, l, it, rfl, how', hn, hI, hl, r, hne⟩ := ra
    refine wpAny_pyIter_revIter hI (hQ _ _ (Keeps.refl' s) ⟨_, [I, l], (fun i v => i < it.length ∧ it.toArray[it.toArray.size - 1 - i]? = some v), (fun i h => i ≤ it.toArray.size ∧ h.IsRevIter I l ((it.toArray.size : Int) - 1 - (i : Int)) ∧ h.IsList l it.toArray), ?_, rfl, hn, ?_, ?_, ?_, ?_, ?_⟩)
    · intro b hb
      simp only [List.mem_cons, List.not_mem_nil, or_false] at hb
      rcases hb with hb | hb
      · exact .inl hb
      · subst hb
        obtain ⟨o, ho, hc, n, hd⟩ := hl
        refine .inr ⟨⟨o, ho, hc, _, n, hd⟩, fun hq => how' ?_⟩
        cases tg <;> first | rfl | cases hq
    · have W' := Walks.listRev (prog := W.prog) (w := W.w) hh I l hne it.toArray
      have e : ws.reverse.length = it.toArray.size := by simp [r.length]
      rw [e]
      exact { sub := W'.sub, frame := W'.frame, item := fun i s Q E hi st hq => W'.item i s Q E hi st fun v h' tk hp st' hk => hq v h' tk ⟨by simpa using hi, hp⟩ st' hk, done := W'.done, self := W'.self }
    · refine ⟨Nat.zero_le _, ?_, hl⟩
      have e : ((it.toArray.size : Nat) : Int) - 1 - ((0 : Nat) : Int) = (it.length : Int) - 1 := by simp
      rw [e]; exact hI
    · intro b hb
      simp only [List.mem_cons, List.not_mem_nil, or_false] at hb
      obtain ⟨o, ho, _⟩ := hI
      obtain ⟨o', ho', _⟩ := hl
      rcases hb with rfl | rfl
      · exact lt_of_some ho
      · exact lt_of_some ho'
    · rintro j v ⟨hj, hv⟩
      simp only [List.getElem?_toArray, List.size_toArray] at hv
      obtain ⟨a, ha, hs⟩ := r.get' _ _ hv
      refine ⟨a, ?_, hs⟩
      rw [List.getElem?_reverse (by rw [← r.length]; exact hj), ← r.length]
      exact ha
    · rintro i h' ⟨_, ⟨o, ho, hc, hd⟩, _⟩
      refine ⟨o, ho, fun vs hvs => ?_, _, hd⟩
      rw [hd] at hvs; cases hvs
      exact ⟨by rw [hc]; nofun, by intro x t; simp [rawInt]⟩
  | _ => simp [iterV] at hv

/-- a store into an object of the frame's own leaves the rest of what is read -/
theorem RS.mut {S : Nat → Sig} {env : Env} {ρ : Loc} {h h' : Heap} {a : Addr} {o : Obj} (x : RS W S env own ρ h) (hg : W.g.get? a = none) (ho : h.get? a = some o) (hi : IterObj o) (e : Heap.ExtBut a h h') : RS W S env own ρ h' := by
  obtain ⟨hm, vs, hd⟩ := hi
  refine ⟨⟨fun b ob hb => e b ob (by rintro rfl; rw [hg] at hb; cases hb) (x.gw.keep b ob hb), W.tom _ _ _ _ x.gw.tok ho hm e⟩, fun y av hy => ?_, fun l hl => ?_⟩
  · obtain ⟨v, r, p⟩ := x.var y av hy
    refine ⟨v, r.step (fun m hn => ?_) (fun c w hc => ?_), ?_⟩
    · obtain ⟨o', es, ep, h1, h2, h3⟩ := hn
      exact ⟨o', es, ep, e _ _ (by rintro rfl; rw [ho] at h1; cases h1; rw [hd] at h2; cases h2) h1, h2, h3⟩
    · obtain ⟨o', h1, h2⟩ := hc
      exact ⟨o', e _ _ (by rintro rfl; rw [ho] at h1; cases h1; rw [hd] at h2; cases h2) h1, h2⟩
    · have hl : ∀ {l ws}, LRep h l ws → LRep h' l ws := fun {l ws} q => q.at1 fun o' h1 => e _ _ (by
        rintro rfl
        obtain ⟨o2, it, n, h2, _, h3⟩ := q.obj
        rw [ho] at h2; cases h2; rw [hd] at h3; cases h3) h1
      cases av with
      | list t ws => cases t with
        | tmp => exact p
        | shr => obtain ⟨l, rfl, q, z⟩ := p; exact ⟨l, rfl, q, hl z⟩
        | own => obtain ⟨l, rfl, q, z⟩ := p; exact ⟨l, rfl, q, hl z⟩
      | _ => exact p
  · obtain ⟨o', it, n, h1, h2, h3⟩ := x.ow l hl
    exact ⟨o', it, n, e _ _ (by rintro rfl; rw [ho] at h1; cases h1; rw [hd] at h3; cases h3) h1, h2, h3⟩
end

/-- the cells that a block takes from around it -/
theorem closure_go {env : Env} : ∀ (names : List (Str × NameKind)) (acc : List (Str × Addr)), (∀ y ∈ names, y.2 = .free → ∃ c, env.cells.lookup y.1 = some c) →
    ∃ cl : List (Str × Addr), (forIn names acc (fun x r => if (x.2 == NameKind.free) = true then (do let c ← cellOf env x.1; pure (ForInStep.yield ((x.1, c) :: r))) else pure (ForInStep.yield r)) : Sem (List (Str × Addr))) = pure cl ∧
      (∀ x c, (x, c) ∈ cl → (x, c) ∈ acc ∨ env.cells.lookup x = some c) ∧ (∀ x, (x, NameKind.free) ∈ names ∨ (acc.lookup x).isSome = true → (cl.lookup x).isSome = true)
  | [], acc, _ => ⟨acc, rfl, fun x c h => .inl h, fun x h => h.elim (fun q => nomatch q) id⟩
  | (n, k) :: r, acc, h => by
    rw [List.forIn_cons]
    by_cases hk : k = .free
    · subst hk
      obtain ⟨c, hc⟩ := h (n, .free) (.head _) rfl
      obtain ⟨cl, e, h1, h2⟩ := closure_go r ((n, c) :: acc) fun y hy => h y (.tail _ hy)
      refine ⟨cl, ?_, fun x d hd => ?_, fun x hx => h2 x ?_⟩
      · simp only [beq_self_eq_true, if_true, cellOf, hc, pure_bind]
        exact e
      · rcases h1 x d hd with q | q
        · rcases List.mem_cons.mp q with q | q
          · cases q; exact .inr hc
          · exact .inl q
        · exact .inr q
      · rcases hx with q | q
        · rcases List.mem_cons.mp q with q | q
          · cases q; exact .inr (by simp [List.lookup])
          · exact .inl q
        · refine .inr ?_
          rw [List.lookup_cons]
          split
          · rfl
          · exact q
    · obtain ⟨cl, e, h1, h2⟩ := closure_go r acc fun y hy => h y (.tail _ hy)
      refine ⟨cl, ?_, h1, fun x hx => h2 x ?_⟩
      · have : (k == NameKind.free) = false := by simpa using hk
        simp only [this, Bool.false_eq_true, if_false, pure_bind]
        exact e
      · rcases hx with q | q
        · rcases List.mem_cons.mp q with q | q
          · cases q; exact absurd rfl hk
          · exact .inl q
        · exact .inr q
theorem mem_of_lookup {α β : Type} [BEq α] [LawfulBEq α] : ∀ {l : List (α × β)} {x : α} {c : β}, l.lookup x = some c → (x, c) ∈ l
  | [], _, _, h => by cases h
  | (y, d) :: r, x, c, h => by
    rw [List.lookup_cons] at h
    split at h
    · rename_i q; cases h; rw [beq_iff_eq.mp q]; exact .head _
    · exact .tail _ (mem_of_lookup h)
theorem closure_ok {env : Env} {sc : Scope} (h : ∀ y ∈ sc.names, y.2 = .free → ∃ c, env.cells.lookup y.1 = some c) :
    ∃ cl, closureFor sc env = pure cl ∧ ∀ x c, (x, NameKind.free) ∈ sc.names → env.cells.lookup x = some c → cl.lookup x = some c := by
  obtain ⟨cl, e, h1, h2⟩ := closure_go sc.names [] h
  refine ⟨cl, ?_, fun x c hx hc => ?_⟩
  · unfold closureFor
    have e' : (forIn sc.names ([] : List (Str × Addr)) (fun x r => match x with
        | (name, kind) => if (kind == NameKind.free) = true then (do let c ← cellOf env name; pure (ForInStep.yield ((name, c) :: r))) else pure (ForInStep.yield r)) : Sem (List (Str × Addr))) = pure cl := e
    first
      | (simp only [e', pure_bind]; rfl)
      | exact (congrArg (fun t : Sem (List (Str × Addr)) => t >>= fun cs => pure cs) e').trans rfl
  · have hs := h2 x (.inl hx)
    obtain ⟨d, hd⟩ := Option.isSome_iff_exists.mp hs
    rcases h1 x d (mem_of_lookup hd) with q | q
    · cases q
    · rw [hc] at q; cases q; exact hd
theorem lookup_relabel {env : Env} : ∀ {names : List (Str × NameKind)} {x : Str},
    (names.map fun (n, k) => if (k == NameKind.free && env.scope.kind == .function && env.kindOf n == some .cell) then (n, NameKind.cell) else (n, k)).lookup x =
      (names.lookup x).map fun k => if (k == NameKind.free && env.scope.kind == .function && env.kindOf x == some .cell) then .cell else k
  | [], _ => rfl
  | (n, k) :: r, x => by
    have e : (if (k == NameKind.free && env.scope.kind == .function && env.kindOf n == some .cell) = true then (n, NameKind.cell) else (n, k)) = (n, if (k == NameKind.free && env.scope.kind == .function && env.kindOf n == some .cell) = true then NameKind.cell else k) := by split <;> rfl
    rw [List.map_cons, List.lookup_cons, List.lookup_cons]
    dsimp only
    rw [e]
    dsimp only
    by_cases hx : (x == n) = true
    · have hx' := beq_iff_eq.mp hx
      subst hx'
      rw [hx]
      rfl
    · have hf : (x == n) = false := by simpa using hx
      rw [hf]
      exact lookup_relabel
end
section
open PySem PySem.W PyProof.Rows PySem.Calls PyProof.V PySem.Spec PySem.SeqAt

noncomputable abbrev Fk (W : Wd) (S : Nat → Sig) : Nat → Value → Prop := fun k v => FnOk W (S k) v

noncomputable def EvOk (W : Wd) (S : Nat → Sig) (R n : Nat) : Prop :=
  ∀ (u : Bool) (es : Scope) (ρ : Loc) (e : Expr) (k : AV → Prop) (A : Around) (env : Env) (own : Option Addr) (s : Shared) (Q E : Value → Shared → Prop), Room A R → EnvOk env →
    (∀ x k, kindIn es.names x k = true → env.kindOf x = some k) → RS W S env own ρ s.heap → evE S R n u es ρ e k →
    (∀ v s' a, Ex W u s s' → RRep (Fk W S) own s.heap s'.heap v a → k a → Q v s') → wpAny (model W.prog W.w) A (eval e env) Q E s
noncomputable def TsOk (W : Wd) (S : Nat → Sig) (R n : Nat) : Prop :=
  ∀ (u : Bool) (es : Scope) (ρ : Loc) (e : Expr) (k : Bool → Prop) (A : Around) (env : Env) (own : Option Addr) (s : Shared) (Q : Bool → Shared → Prop) (E : Value → Shared → Prop), Room A R → EnvOk env →
    (∀ x k, kindIn es.names x k = true → env.kindOf x = some k) → RS W S env own ρ s.heap → tsE S R n u es ρ e k →
    (∀ c s', Ex W u s s' → k c → Q c s') → wpAny (model W.prog W.w) A (isTrue e env (eval e env)) Q E s
noncomputable def PtOk (W : Wd) (S : Nat → Sig) (R n : Nat) : Prop :=
  ∀ (u : Bool) (es : Scope) (ρ : Loc) (e : Option Expr) (k : Option Int → Prop) (A : Around) (env : Env) (own : Option Addr) (s : Shared) (Q E : Value → Shared → Prop), Room A R → EnvOk env →
    (∀ x k, kindIn es.names x k = true → env.kindOf x = some k) → RS W S env own ρ s.heap → partE S R n u es ρ e k →
    (∀ v s' i, Ex W u s s' → IsPart v i → k i → Q v s') → wpAny (model W.prog W.w) A (valueOrNone (evalOpt e env)) Q E s

theorem Ex.mutFresh {W : Wd} {u : Bool} {s s₂ : Shared} {I : Addr} {o : Obj} {h' : Heap} {tk : Nat} (x : Ex W u s s₂) (hn : s.heap.get? I = none) (ho : s₂.heap.get? I = some o) (hm : Mut o) (e : Heap.ExtBut I s₂.heap h') :
    Ex W u s { s₂ with heap := h', toks := tk } := by
  have ne : ∀ b o, s.heap.get? b = some o → b ≠ I := by rintro b o hb rfl; rw [hn] at hb; cases hb
  cases u with
  | false =>
    have x' : Keeps s s₂ := by simpa [Ex] using x
    obtain ⟨h, t, rfl, k⟩ := x'
    show Ex W false _ _
    simp only [Ex, Bool.false_eq_true, if_false]
    exact ⟨h', tk, rfl, fun b ob hb => e b ob (ne b ob hb) (k b ob hb)⟩
  | true =>
    have x' : ExtU W s s₂ := by simpa [Ex] using x
    simp only [Ex, if_true]
    exact ⟨fun b ob hb hq => e b ob (ne b ob hq) (x'.keep b ob hb hq), fun t => W.tom _ _ _ _ (x'.tok t) ho hm e, x'.os, x'.gens, x'.bare⟩

theorem SRep.uniq {v : Value} {a b : SV} (x : SRep v a) (y : SRep v b) : a = b := by
  cases x <;> cases y <;> rfl
theorem reps_of {vals : List Value} : ∀ {vs : List SV}, vals.length = vs.length → (∀ (j : Nat) (v : Value), vals[j]? = some v → ∃ a, vs[j]? = some a ∧ SRep v a) → Reps vals vs := by
  induction vals with
  | nil => intro vs h _; cases vs with
    | nil => exact .nil
    | cons _ _ => simp at h
  | cons v r ih =>
    intro vs h hp
    cases vs with
    | nil => simp at h
    | cons a q =>
      obtain ⟨a', ha, hs⟩ := hp 0 v rfl
      simp only [List.getElem?_cons_zero, Option.some.injEq] at ha
      subst ha
      exact .cons hs (ih (by simpa using h) fun j v hj => by simpa using hp (j + 1) v (by simpa using hj))
theorem paired_reps {g : SV → SV} {vals ys : List Value} (h : Paired (fun v y => ∃ a, SRep v a ∧ SRep y (g a)) vals ys) : ∀ {vs : List SV}, Reps vals vs → Reps ys (vs.map g) := by
  induction h with
  | nil => intro vs r; cases r; exact .nil
  | cons hf _ ih =>
    intro vs r
    cases r with
    | cons hv hr =>
      obtain ⟨a, h1, h2⟩ := hf
      rw [h1.uniq hv] at h2
      exact .cons h2 (ih hr)

theorem look_cρ (es sc : Scope) (x : Str) : ∀ ρ : Loc, look x (cρ es sc ρ) = if ((kindIn sc.names x .free && kindIn es.names x .cell) || (kindIn sc.names x .globalImplicit && kindIn es.names x .globalImplicit)) = true then look x ρ else none
  | [] => by simp [cρ, look]
  | (y, a) :: r => by
    have ih := look_cρ es sc x r
    unfold cρ
    by_cases hxy : x = y
    · subst hxy
      by_cases c : ((kindIn sc.names x .free && kindIn es.names x .cell) || (kindIn sc.names x .globalImplicit && kindIn es.names x .globalImplicit)) = true
      · rw [if_pos c, if_pos c]; simp [look]
      · rw [if_neg c, if_neg c, ih, if_neg c]
    · by_cases c : ((kindIn sc.names y .free && kindIn es.names y .cell) || (kindIn sc.names y .globalImplicit && kindIn es.names y .globalImplicit)) = true
      · rw [if_pos c]; simp only [look, if_neg hxy]; exact ih
      · rw [if_neg c]; simp only [look, if_neg hxy]; exact ih

theorem kindIn_iff {ns : List (Str × NameKind)} {x : Str} {k : NameKind} : kindIn ns x k = true ↔ ns.lookup x = some k := by
  unfold kindIn; exact beq_iff_eq

/-- what stands when a comprehension's block begins -/
noncomputable def CompFacts (W : Wd) (S : Nat → Sig) (A : Around) (u : Bool) (env : Env) (own : Option Addr) (ρ : Loc) (sc : Scope) (cl : List (Str × Addr)) (t : Str) (elt : Expr) (k : AV → Prop) (s : Shared) (g : SV → SV) (it : Value) (s₂ : Shared) : Prop :=
  ∃ (I : Addr) (fp : List Addr) (vs : List SV) (P : Nat → Value → Prop) (St : Nat → Heap → Prop), it = .ref I ∧ Walks W.prog W.w A I fp [I] vs.length P St ∧ St 0 s₂.heap ∧ (∀ b ∈ fp, b < s₂.heap.objs.size) ∧
    QuietOnC W.prog W.w A env sc cl t [] elt [I] P (fun _ => true) (fun v y => ∃ a, SRep v a ∧ SRep y (g a)) s₂ ∧ Ex W u s s₂ ∧ s.heap.get? I = none ∧ (∃ o, s₂.heap.get? I = some o ∧ IterObj o) ∧ vs.length ≤ 2 ^ 20 ∧
    (∀ j v, P j v → ∃ a, vs[j]? = some a ∧ SRep v a) ∧ k (.list .tmp (vs.map g)) ∧ RS W S env own ρ s₂.heap

section
variable {A : Around} {E : Value → Shared → Prop} {s : Shared} {W : Wd} {S : Nat → Sig} {own : Option Addr} {R n : Nat} {u : Bool} {es : Scope} {ρ : Loc} {env : Env}

theorem comp_core (ih : EvOk W S R n) {elt iter : Expr} {t : Str} {sc : Scope} {k : AV → Prop} {cl : List (Str × Addr)} (hR : Room A R) (K : EnvOk env) (hes : ∀ x k, kindIn es.names x k = true → env.kindOf x = some k) (r : RS W S env own ρ s.heap)
    (hok : compOk es sc t = true) (hcl : ∀ x c, (x, NameKind.free) ∈ sc.names → env.cells.lookup x = some c → cl.lookup x = some c)
    {g : SV → SV} (h : evE S R n u es ρ iter fun it => ∃ vs, iterV it = some vs ∧ vs.length ≤ 2 ^ 20 ∧ (∀ v ∈ vs, evE S R n false noScope ((t, .sc v) :: cρ es sc ρ) elt fun a => a = .sc (g v)) ∧ k (.list .tmp (vs.map g)))
    {Q : Value → Shared → Prop} (hQ : ∀ it s₂, CompFacts W S A u env own ρ sc cl t elt k s g it s₂ → Q it s₂) :
    wpAny (model W.prog W.w) A (eval iter env) (fun xv s₁ => wpAny (model W.prog W.w) A (pyIter xv) Q E s₁) E s := by
  simp only [compOk, Bool.and_eq_true, List.all_eq_true] at hok
  obtain ⟨⟨⟨⟨⟨h1, h2⟩, h3⟩, h4⟩, h5⟩, h6⟩ := hok
  refine ih u es ρ iter _ A env own s _ _ hR K hes r h fun xv s₁ a hx ra hk => ?_
  obtain ⟨vs, hv, hlen, hg, hkk⟩ := hk
  have r₁ := r.ext hx.ext
  refine iter_sound (s₀ := s) ra hv hR.hd hx.ext r.gw.tok (fun l hl => let ⟨o, _, _, ho, _⟩ := r.ow l hl; ⟨o, ho⟩) fun it s₂ hk₂ hI => ?_
  obtain ⟨I, fp, P, St, _, rfl, hn, hw, hst, hfp, hP, hobj⟩ := hI
  have hx₂ : Ex W u s s₂ := hx.trans (.of_keeps hk₂)
  have r₂ := r.ext hx₂.ext
  obtain ⟨oI, hoI, hiI⟩ := hobj _ _ hst
  have hgI : W.g.get? I = none := by
    cases hq : W.g.get? I with
    | none => rfl
    | some o => have := r.gw.keep _ _ hq; rw [hn] at this; cases this
  refine hQ _ _ ⟨I, fp, vs, P, St, rfl, hw, hst, hfp, ⟨?_, ?_⟩, hx₂, hn, ⟨oI, hoI, hiI⟩, hlen, hP, hkk, r₂⟩
  · intro C i v s₃ m₃ E' _ _ _ _ _ _
    exact wpAny_pure ⟨rfl, Keeps.refl' s₃⟩
  · intro C i v s₃ m₃ E' hC hPv _ hN hm hk₃ _
    obtain ⟨a, ha, hsv⟩ := hP i v hPv
    have hmem : a ∈ vs := List.mem_of_getElem? ha
    have hext : Heap.ExtBut I s₂.heap s₃.heap := fun b o hb e => hk₃ b o (by simpa using hb) e
    have r₃ := RS.mut r₂ hgI hoI hiI hext
    have K' : EnvOk (compEnvC sc cl C env) := by
      refine ⟨?_, K.glob, K.bui, fun x hx => ?_⟩
      · show sc.kind = .function
        exact beq_iff_eq.mp h2
      · show ∃ c, cl.lookup x = some c
        have hx' : (relabel sc env).names.lookup x = some .cell := hx
        unfold relabel at hx'
        rw [lookup_relabel] at hx'
        cases hl : sc.names.lookup x with
        | none => rw [hl] at hx'; cases hx'
        | some kd =>
          have hmem := mem_of_lookup hl
          rw [hl] at hx'
          simp only [Option.map_some, Option.some.injEq] at hx'
          split at hx'
          · rename_i hc
            simp only [Bool.and_eq_true, beq_iff_eq] at hc
            obtain ⟨c, hcc⟩ := K.cel x hc.2
            exact ⟨c, hcl x c (hc.1.1 ▸ hmem) hcc⟩
          · subst hx'
            have := h1 _ hmem
            simp at this
    have kind : ∀ x kd, sc.names.lookup x = some kd → (compEnvC sc cl C env).kindOf x = some (if (kd == NameKind.free && env.scope.kind == .function && env.kindOf x == some .cell) = true then .cell else kd) := by
      intro x kd hl
      show (relabel sc env).names.lookup x = _
      unfold relabel
      rw [lookup_relabel, hl]; rfl
    have r₄ : RS W S (compEnvC sc cl C env) own ((t, .sc a) :: cρ es sc ρ) s₃.heap := by
      refine ⟨r₃.gw, fun x av hx => ?_, r₃.ow⟩
      by_cases hxt : x = t
      · subst hxt
        simp only [look, if_true, Option.some.injEq] at hx
        subst hx
        have hl := kindIn_iff.mp h4
        have hkd := kind x .local hl
        simp only [show (NameKind.local == NameKind.free) = false from rfl, Bool.false_and, Bool.false_eq_true, if_false] at hkd
        exact ⟨v, ⟨by simpa using h6, .inl ⟨hkd, m₃, hN, hm⟩⟩, hsv⟩
      · simp only [look, if_neg hxt] at hx
        rw [look_cρ] at hx
        split at hx
        · rename_i hc
          obtain ⟨w, rd, vr⟩ := r₃.var x av hx
          refine ⟨w, ⟨rd.1, ?_⟩, vr⟩
          rcases Bool.or_eq_true_iff.mp hc with q | q
          · obtain ⟨q1, q2⟩ := Bool.and_eq_true_iff.mp q
            have hek := hes x .cell q2
            have hl := kindIn_iff.mp q1
            have hkd := kind x .free hl
            simp only [beq_self_eq_true, K.kind, hek, Bool.and_self, if_true] at hkd
            rcases rd.2 with ⟨z, _⟩ | ⟨_, c, hc1, hc2⟩ | ⟨z, _⟩ | ⟨z, _⟩ | ⟨z, _⟩
            · rw [hek] at z; cases z
            · exact .inr (.inl ⟨hkd, c, hcl x c (mem_of_lookup hl) hc1, hc2⟩)
            · rw [hek] at z; cases z
            · rw [hek] at z; cases z
            · rw [hek] at z; cases z
          · obtain ⟨q1, q2⟩ := Bool.and_eq_true_iff.mp q
            have hek := hes x .globalImplicit q2
            have hl := kindIn_iff.mp q1
            have hkd := kind x .globalImplicit hl
            simp only [show (NameKind.globalImplicit == NameKind.free) = false from rfl, Bool.false_and, Bool.false_eq_true, if_false] at hkd
            rcases rd.2 with ⟨z, _⟩ | ⟨z, _⟩ | ⟨z, _⟩ | ⟨_, z⟩ | ⟨_, z⟩
            · rw [hek] at z; cases z
            · rw [hek] at z; cases z
            · rw [hek] at z; cases z
            · exact .inr (.inr (.inr (.inl ⟨hkd, z⟩)))
            · exact .inr (.inr (.inr (.inr ⟨hkd, z⟩)))
        · cases hx
    refine ih false noScope _ elt _ A _ own s₃ _ _ hR K' (fun x kd hx => by simp [noScope, kindIn] at hx) r₄ (hg a hmem) fun y s₄ b hx₄ rb hb => ?_
    subst hb
    exact ⟨⟨a, hsv, rb⟩, by simpa [Ex] using hx₄⟩

theorem comp_list {vs : List SV} {P : Nat → Value → Prop} {g : SV → SV} {D : Addr} {h' : Heap} {ys : Array Value} {vals : List Value}
    (hP : ∀ (j : Nat) (v : Value), P j v → ∃ a, vs[j]? = some a ∧ SRep v a) (hp : h'.PlainList D ys) (hl : vals.length = vs.length) (hv : ∀ (j : Nat) (v : Value), vals[j]? = some v → P j v)
    (hF : Paired (fun v y => ∃ a, SRep v a ∧ SRep y (g a)) (vals.filter fun _ => true) ys.toList) : LRep h' D (vs.map g) := by
  have e : vals.filter (fun _ => true) = vals := List.filter_eq_self.mpr fun _ _ => rfl
  rw [e] at hF
  exact ⟨ys.toList, by simpa using hp, paired_reps hF (reps_of hl fun j v hj => hP j v (hv j v hj))⟩
end
end
section
open PySem PySem.W PyProof.Rows PySem.Calls PyProof.V PySem.Spec PySem.SeqAt

section
variable {A : Around} {E : Value → Shared → Prop} {s : Shared} {W : Wd} {S : Nat → Sig} {own : Option Addr} {R n : Nat} {u : Bool} {es : Scope} {ρ : Loc} {env : Env}

theorem noStar_head {e : Expr} {r : List Expr} (h : noStar (e :: r) = true) : (∀ v p, e ≠ .Starred v p) ∧ noStar r = true := by
  obtain ⟨h1, h2⟩ := Bool.and_eq_true_iff.mp (show (!isStar e && noStar r) = true from h)
  exact ⟨not_star (by simpa using h1), h2⟩
theorem RReps.ext {F : Nat → Value → Prop} {h₀ : Heap} {s s' : Shared} {vs as} (x : RReps F own h₀ s.heap vs as) (t : W.TOk s.heap) (e : ExtU W s s') : RReps F own h₀ s'.heap vs as := by
  induction x with
  | nil => exact .nil
  | cons a _ ih => exact .cons (a.ext t e) ih

theorem evs_sound (ih : EvOk W S R n) (hR : Room A R) (K : EnvOk env) (hes : ∀ x k, kindIn es.names x k = true → env.kindOf x = some k) {pos : Pos} : ∀ (el : List Expr) (k : List AV → Prop) (s : Shared) (Q : List Value → Shared → Prop),
    RS W S env own ρ s.heap → noStar el = true → evs (evE S R n u es ρ) el k → (∀ vs s' as, Ex W u s s' → RReps (Fk W S) own s.heap s'.heap vs as → k as → Q vs s') →
    wpAny (model W.prog W.w) A (spliced (backTo pos (starEach el env))) Q E s
  | [], k, s, Q, r, _, h, hQ => spliced_nil (hQ [] s [] (.refl W u s) .nil h)
  | e :: rest, k, s, Q, r, hn, h, hQ => by
    obtain ⟨h1, h2⟩ := noStar_head hn
    rw [star_plain h1]
    refine spliced_cons (ih u es ρ e _ A env own s _ _ hR K hes r h fun v s₁ a hx ra hk => ?_)
    refine evs_sound ih hR K hes rest _ s₁ _ (r.ext hx.ext) h2 hk fun vs s₂ as hx₂ rs hk₂ => ?_
    have r₁ := r.ext hx.ext
    refine hQ _ _ _ (hx.trans hx₂) (.cons (ra.ext r₁.gw.tok hx₂.ext) ?_) hk₂
    have back : ∀ {vs as}, RReps (Fk W S) own s₁.heap s₂.heap vs as → RReps (Fk W S) own s.heap s₂.heap vs as := by
      intro vs as q
      induction q with
      | nil => exact .nil
      | cons a _ ih => exact .cons (a.back r.gw.tok hx.ext) ih
    exact back rs

theorem scs_reps {F : Nat → Value → Prop} {h₀ h : Heap} {vs : List Value} {as : List AV} {ws : List SV} (x : RReps F own h₀ h vs as) (e : scs as = some ws) : Reps vs ws := by
  induction x generalizing ws with
  | nil => cases e; exact .nil
  | cons ra rr ih =>
    rename_i v a vs as
    cases a with
    | sc a =>
      obtain ⟨zs, hz, rfl⟩ := Option.map_eq_some_iff.mp e
      exact .cons ra (ih hz)
    | _ => cases e

theorem callee_call {f : Value} {pos : Pos} {e : Expr} {rest : List Expr} {Q : Value → Shared → Prop} (C : Callee W f) (hn : noStar (e :: rest) = true)
    (h : wpAny (model W.prog W.w) A (spliced (backTo pos (starEach (e :: rest) env))) (fun vs s₁ => GW W s₁.heap ∧ wpAny (model W.prog W.w) A (call f vs) Q E s₁) E s) :
    wpAny (model W.prog W.w) A (callWith pos f [] (backTo pos (starEach (e :: rest) env)) []) Q E s := by
  obtain ⟨h1, h2⟩ := noStar_head hn
  have he := star_plain (rest := rest) (env := env) h1
  rcases C with ⟨id, rfl⟩ | ⟨T, rfl⟩ | ⟨g, o, fd, rfl, ho, hd⟩
  · exact PyProof.Rows.callWith_builtin1 (wpAny_mono h (fun _ _ x => x.2) fun _ _ x => x) he (star_any h2)
  · exact PyProof.Rows.callWith_type1 (wpAny_mono h (fun _ _ x => x.2) fun _ _ x => x) he (star_any h2)
  · exact PyProof.Rows.callWith_def hd (wpAny_mono h (fun _ _ x => ⟨x.1.keep _ _ ho, x.2⟩) fun _ _ x => x) he

end
end
section
open PySem PySem.W PyProof.Rows PySem.Calls PyProof.V PySem.Spec PySem.SeqAt

section
variable {W : Wd} {S : Nat → Sig} {R n : Nat}

theorem pt_step (ihE : EvOk W S R n) : PtOk W S R (n + 1) := by
  intro u es ρ e k A env own s Q E hR K hes r h hQ
  cases h with
  | none h => exact wpAny_pure (hQ _ _ _ (.refl W u s) .none h)
  | some h =>
    refine ihE u es ρ _ _ A env own s _ _ hR K hes r h fun v s' a hx ra hk => ?_
    obtain ⟨i, rfl, hk⟩ := hk
    exact SRep.intC (P := fun v => Q v s') ra fun _ => hQ _ _ _ hx (.int _ _) hk

theorem ts_step (ihE : EvOk W S R n) (ihT : TsOk W S R n) : TsOk W S R (n + 1) := by
  intro u es ρ e k A env own s Q E hR K hes r h hQ
  have R0 := hR.le (Nat.zero_le R)
  cases h with
  | cmp hm h =>
    refine wpAny_isTrue_Compare1 (ihE u es ρ _ _ A env own s _ _ hR K hes r h fun v s₁ a hx ra hk => ?_) hm
    refine ihE u es ρ _ _ A env own s₁ _ _ hR K hes (r.ext hx.ext) hk fun v' s₂ b hx₂ rb hk₂ => ?_
    refine cmp_sound hk₂ (ra.ext (r.ext hx.ext).gw.tok hx₂.ext) rb R0 fun c hc => ?_
    exact wpAny_truthy_bool (hQ _ _ (hx.trans hx₂) hc)
  | chain hm hm' h =>
    refine isTrue_chain ?_ (by show lastMarks [_, _] [_, _] = false; simpa [lastMarks] using hm')
    refine ihE u es ρ _ _ A env own s _ _ hR K hes r h fun v s₁ a hx ra hk => ?_
    refine test_link (ihE u es ρ _ _ A env own s₁ _ _ hR K hes (r.ext hx.ext) hk fun v' s₂ b hx₂ rb hk₂ => ?_)
    refine cmp_sound hk₂ (ra.ext (r.ext hx.ext).gw.tok hx₂.ext) rb R0 fun c hc => ?_
    refine wpAny_truthy_bool ?_
    have r₂ := r.ext (hx.trans hx₂).ext
    cases c with
    | false => exact hQ _ _ (hx.trans hx₂) (hc.2 rfl)
    | true =>
      refine test_last (ihE u es ρ _ _ A env own s₂ _ _ hR K hes r₂ (hc.1 rfl) fun v'' s₃ b' hx₃ rb' hk₃ => ?_)
      refine cmp_sound hk₃ (rb.ext r₂.gw.tok hx₃.ext) rb' R0 fun c hc => ?_
      exact wpAny_truthy_bool (hQ _ _ ((hx.trans hx₂).trans hx₃) hc)
  | and h =>
    refine wpAny_isTrue_BoolOp (wpAny_allTrue_And_cons (ihT u es ρ _ _ A env own s _ _ hR K hes r h fun c s₁ hx hk => ?_))
    cases c with
    | false => exact hQ _ _ hx (hk.2 rfl)
    | true =>
      refine wpAny_allTrue_And_cons (ihT u es ρ _ _ A env own s₁ _ _ hR K hes (r.ext hx.ext) (hk.1 rfl) fun c s₂ hx₂ hk => ?_)
      cases c with
      | false => exact hQ _ _ (hx.trans hx₂) hk
      | true => exact wpAny_allTrue_And_nil (hQ _ _ (hx.trans hx₂) hk)
  | or h =>
    refine wpAny_isTrue_BoolOp (wpAny_allTrue_Or_cons (ihT u es ρ _ _ A env own s _ _ hR K hes r h fun c s₁ hx hk => ?_))
    cases c with
    | true => exact hQ _ _ hx (hk.1 rfl)
    | false =>
      refine wpAny_allTrue_Or_cons (ihT u es ρ _ _ A env own s₁ _ _ hR K hes (r.ext hx.ext) (hk.2 rfl) fun c s₂ hx₂ hk => ?_)
      cases c with
      | true => exact hQ _ _ (hx.trans hx₂) hk
      | false => exact wpAny_allTrue_Or_nil (hQ _ _ (hx.trans hx₂) hk)
  | not h =>
    exact PyProof.Rows.isTrue_not (ihT u es ρ _ _ A env own s _ _ hR K hes r h fun c s₁ hx hk => hQ _ _ hx hk)
  | name h =>
    refine wpAny_isTrue_value (ihE u es ρ _ _ A env own s _ _ hR K hes r h fun v s₁ a hx ra hk => ?_)
    exact tru_sound hk ra fun c s₂ hk₂ hc => hQ _ _ (hx.trans (.of_keeps hk₂)) hc
  | call h =>
    refine wpAny_isTrue_value (ihE u es ρ _ _ A env own s _ _ hR K hes r h fun v s₁ a hx ra hk => ?_)
    exact tru_sound hk ra fun c s₂ hk₂ hc => hQ _ _ (hx.trans (.of_keeps hk₂)) hc
theorem TypeIs.push {s : Shared} {v : Value} {T : String} {o : Obj} (h : s.TypeIs v T) : ({ s with heap := s.heap.push o } : Shared).TypeIs v T := by
  cases v with
  | ref a => obtain ⟨ob, h1, h2⟩ := h; exact ⟨ob, Heap.get?_push_of_some _ h1, h2⟩
  | _ => exact h
theorem star_all {env : Env} {pos : Pos} : ∀ {es : List Expr}, noStar es = true → ((backTo pos (starEach es env)).all fun x => !x.1) = true
  | [], _ => rfl
  | e :: r, h => by
    obtain ⟨h1, h2⟩ := noStar_head h
    rw [star_plain h1]
    show (true && (backTo pos (starEach r env)).all fun x => !x.1) = true
    rw [star_all h2]; rfl
theorem one_of {l : List Expr} (h : l.length = 1) : ∃ e, l = [e] := by
  match l, h with
  | [e], _ => exact ⟨e, rfl⟩
theorem joinE_of {x : Str} {a : AV} {k : AV → Prop} (h : joinE (.sc (.str x)) [a] k) : ∃ t vs ys, a = .list t vs ∧ strsOf vs = some ys ∧ sumLen ys ≤ 2 ^ 20 ∧ vs.length ≤ 2 ^ 20 ∧ k (aS (ys.flatMap cs)) := by
  cases a with
  | list t vs =>
    obtain ⟨_, ys, h⟩ := h
    exact ⟨t, vs, ys, rfl, h⟩
  | _ => exact h.elim
theorem indexE_of {x : Str} {a : AV} {k : AV → Prop} (h : indexE (.sc (.str x)) [a] k) : ∃ c i, a = .sc (.str (mkS [c])) ∧ (cs x)[i]? = some c ∧ (∀ j < i, (cs x)[j]? ≠ some c) ∧ k (aI (i : Nat)) := by
  cases a with
  | sc v =>
    cases v with
    | str y =>
      obtain ⟨c, i, h1, h2, h3, h4⟩ := h
      refine ⟨c, i, ?_, h2, h3, h4⟩
      rw [← h1, mkS_cs]
    | _ => exact h.elim
  | _ => exact h.elim
theorem meth_step {A : Around} {E : Value → Shared → Prop} {s : Shared} {own : Option Addr} {u : Bool} {es : Scope} {ρ : Loc} {env : Env} {h₀ : Heap} (ihE : EvOk W S R n) (hR : Room A R) (K : EnvOk env)
    (hes : ∀ x k, kindIn es.names x k = true → env.kindOf x = some k) (r : RS W S env own ρ s.heap) {a : AV} {nm : String} {args : List Expr} {k : AV → Prop} {pos : Pos} {va : Value} {Q : Value → Shared → Prop} (hn : noStar args = true) (hok : methOk a nm args.length = true)
    (h : evs (evE S R n u es ρ) args fun as => methE a nm as k) (ra : RRep (Fk W S) own h₀ s.heap va a) (hQ : ∀ v s' a, Ex W u s s' → SRep v a → k (.sc a) → Q v s') :
    MethodOn W.prog W.w A (Str.ofString nm) pos va (backTo pos (starEach args env)) Q E s := by
  unfold methOk at hok
  unfold methE at h
  by_cases c1 : nm = "bit_length"
  · subst c1
    simp only [if_true, Bool.and_eq_true, decide_eq_true_eq] at hok h
    have : args = [] := List.length_eq_zero_iff.mp hok.2
    subst this
    cases a with
    | sc v =>
      cases v with
      | int i => cases ra; exact meth_bits h fun v s' a hk hs ka => hQ _ _ _ (.of_keeps hk) hs ka
      | _ => simp [isIntA] at hok
    | _ => simp [isIntA] at hok
  · rw [if_neg c1] at hok
    simp only [if_neg c1] at h
    by_cases c2 : nm = "join"
    · subst c2
      simp only [if_true, Bool.and_eq_true, decide_eq_true_eq] at hok h
      obtain ⟨e, rfl⟩ := one_of hok.2
      cases a with
      | sc v =>
        cases v with
        | str x =>
          have hx : x = mkS [] := by simpa [isNilS] using hok.1
          subst hx
          cases ra
          rw [star_plain (noStar_head hn).1]
          refine meth_join (wpAny_mono (ihE u es ρ e _ A env own s (fun v s₁ => ∃ vs ys l, strsOf vs = some ys ∧ sumLen ys ≤ 2 ^ 20 ∧ vs.length ≤ 2 ^ 20 ∧ k (aS (ys.flatMap cs)) ∧ v = .ref l ∧ LRep s₁.heap l vs ∧ ∀ v s' a, Keeps s₁ s' → SRep v a → k (.sc a) → Q v s') E hR K hes r h fun v s₁ a hx rb hk => ?_) (fun _ _ x => x) fun _ _ x => x)
          obtain ⟨t, vs, ys, rfl, hy, h1, h2, hk⟩ := joinE_of (show joinE (.sc (.str (mkS []))) [a] k from hk)
          obtain ⟨l, rfl, lr⟩ := rb.list
          exact ⟨vs, ys, l, hy, h1, h2, hk, rfl, lr, fun v s' a hk' hs ka => hQ v s' a (hx.trans (.of_keeps hk')) hs ka⟩
        | _ => simp [isNilS] at hok
      | _ => simp [isNilS] at hok
    · rw [if_neg c2] at hok
      simp only [if_neg c2] at h
      by_cases c3 : nm = "index"
      · subst c3
        simp only [if_true, Bool.and_eq_true, decide_eq_true_eq] at hok h
        obtain ⟨e, rfl⟩ := one_of hok.2
        cases a with
        | sc v =>
          cases v with
          | str x =>
            cases ra
            rw [star_plain (noStar_head hn).1]
            refine meth_index (wpAny_mono (ihE u es ρ e _ A env own s (fun v s₁ => ∃ c i u, (cs x)[i]? = some c ∧ (∀ j < i, (cs x)[j]? ≠ some c) ∧ k (aI (i : Nat)) ∧ v = .str (mkS [c]) u ∧ ∀ v s' a, Keeps s₁ s' → SRep v a → k (.sc a) → Q v s') E hR K hes r h fun v s₁ a hx rb hk => ?_) (fun _ _ x => x) fun _ _ x => x)
            obtain ⟨c, i, rfl, h1, h2, hk⟩ := indexE_of (show indexE (.sc (.str x)) [a] k from hk)
            cases rb
            exact ⟨c, i, _, h1, h2, hk, rfl, fun v s' a hk' hs ka => hQ v s' a (hx.trans (.of_keeps hk')) hs ka⟩
          | _ => simp [isStrA] at hok
        | _ => simp [isStrA] at hok
      · simp [if_neg c3] at hok
theorem ev_step (ihE : EvOk W S R n) (ihT : TsOk W S R n) (ihP : PtOk W S R n) : EvOk W S R (n + 1) := by
  intro u es ρ e k A env own s Q E hR K hes r h hQ
  have R0 := hR.le (Nat.zero_le R)
  have kq : ∀ {s₁ : Shared}, Ex W u s s₁ → ∀ v s' a, Keeps s₁ s' → RRep (Fk W S) own s₁.heap s'.heap v a → k a → Q v s' := fun hx v s' a hk ra ka => hQ v s' a (hx.trans (.of_keeps hk)) (ra.back r.gw.tok hx.ext) ka
  cases h with
  | int h =>
    exact wpAny_Constant_int (hQ _ _ (aI _) .toks (SRep.int _ _) h)
  | str h =>
    exact wpAny_Constant_str (hQ _ _ (.sc (.str _)) .toks (SRep.str _ _) h)
  | bool h =>
    exact wpAny_Constant_bool (hQ _ _ (aB _) (.refl W u s) (SRep.bool _) h)
  | none h =>
    exact wpAny_Constant_none (hQ _ _ (.sc .none) (.refl W u s) SRep.none h)
  | name ha hk =>
    obtain ⟨v, rd, vr⟩ := r.var _ _ ha
    exact rd.name K r.gw (hQ v s _ (.refl W u s) vr.res hk)
  | bin h =>
    refine wpAny_BinOp (ihE u es ρ _ _ A env own s _ _ hR K hes r h fun v s₁ a hx ra hk => ?_)
    refine ihE u es ρ _ _ A env own s₁ _ _ hR K hes (r.ext hx.ext) hk fun v' s₂ b hx₂ rb hk₂ => ?_
    have r₂ := r.ext (hx.trans hx₂).ext
    exact bin_sound hk₂ (ra.ext (r.ext hx.ext).gw.tok hx₂.ext) rb r₂.gw R0 (kq (hx.trans hx₂))
  | usub h =>
    refine wpAny_UnaryOp (ihE u es ρ _ _ A env own s _ _ hR K hes r h fun v s₁ a hx ra hk => ?_)
    exact neg_sound hk ra (kq hx)
  | and h =>
    refine PyProof.Rows.BoolOp_and (ihE u es ρ _ _ A env own s _ _ hR K hes r h fun v s₁ a hx ra hk => ?_)
    obtain ⟨b, rfl, h1, h2⟩ := hk
    cases ra
    refine wpAny_truthy_bool ?_
    cases b with
    | false => exact hQ _ _ (aB false) hx (SRep.bool _) (h2 rfl)
    | true =>
      refine PyProof.Rows.BoolOp_one (ihE u es ρ _ _ A env own s₁ _ _ hR K hes (r.ext hx.ext) (h1 rfl) fun v' s₂ b hx₂ rb hk₂ => ?_)
      exact hQ _ _ _ (hx.trans hx₂) (rb.back r.gw.tok hx.ext) hk₂
  | ife h =>
    refine wpAny_IfExp (ihT u es ρ _ _ A env own s _ _ hR K hes r h fun c s₁ hx hk => ?_)
    cases c with
    | true =>
      exact ihE u es ρ _ _ A env own s₁ _ _ hR K hes (r.ext hx.ext) (hk.1 rfl) fun v' s₂ b hx₂ rb hk₂ => hQ _ _ _ (hx.trans hx₂) (rb.back r.gw.tok hx.ext) hk₂
    | false =>
      exact ihE u es ρ _ _ A env own s₁ _ _ hR K hes (r.ext hx.ext) (hk.2 rfl) fun v' s₂ b hx₂ rb hk₂ => hQ _ _ _ (hx.trans hx₂) (rb.back r.gw.tok hx.ext) hk₂
  | cmp hm h =>
    refine wpAny_Compare1 (ihE u es ρ _ _ A env own s _ _ hR K hes r h fun v s₁ a hx ra hk => ?_) hm
    refine ihE u es ρ _ _ A env own s₁ _ _ hR K hes (r.ext hx.ext) hk fun v' s₂ b hx₂ rb hk₂ => ?_
    exact cmp_sound hk₂ (ra.ext (r.ext hx.ext).gw.tok hx₂.ext) rb R0 fun c hc => hQ _ _ (aB c) (hx.trans hx₂) (SRep.bool _) hc
  | slice h =>
    -- slices
    refine slice_rule (ihE u es ρ _ _ A env own s _ _ hR K hes r h fun v s₁ a hx ra hk => ?_)
    have r₁ := r.ext hx.ext
    refine wpAny_Slice (ihP u es ρ _ _ A env own s₁ _ _ hR K hes r₁ hk fun vl s₂ lo hx₂ pl hk₂ => ?_)
    have r₂ := r₁.ext hx₂.ext
    refine ihP u es ρ _ _ A env own s₂ _ _ hR K hes r₂ hk₂ fun vu s₃ hi hx₃ pu hk₃ => ?_
    have r₃ := r₂.ext hx₃.ext
    refine ihP u es ρ _ _ A env own s₃ _ _ hR K hes r₃ hk₃ fun vt s₄ st hx₄ pt hk₄ => ?_
    have r₄ := r₃.ext hx₄.ext
    have hx' := hx₂.trans (hx₃.trans hx₄)
    obtain ⟨T, id, e1, e2, e3⟩ := slice_sound (W := W) (A := A) (E := E) hk₄ (ra.ext r₁.gw.tok hx'.ext) pl pu pt (kq (hx.trans hx'))
    exact ⟨T, id, e1, TypeIs.push e2, e3⟩
  | sub hns h =>
    -- items
    refine sub_rule hns (ihE u es ρ _ _ A env own s _ _ hR K hes r h fun v s₁ a hx ra hk => ?_)
    refine ihE u es ρ _ _ A env own s₁ _ _ hR K hes (r.ext hx.ext) hk fun v' s₂ b hx₂ rb hk₂ => ?_
    exact getItem_sound hk₂ (ra.ext (r.ext hx.ext).gw.tok hx₂.ext) rb fun v s' a hk hs ka => hQ _ _ (.sc a) ((hx.trans hx₂).trans (.of_keeps hk)) hs ka
  | list hn h =>
    refine wpAny_List (evs_sound ihE hR K hes _ _ s _ r hn h fun vs s₁ as hx rs hk => ?_)
    obtain ⟨ws, hw, hl, hk⟩ := hk
    have rp := scs_reps rs hw
    refine ⟨by rw [rp.length]; exact Nat.le_trans hl (by simp [sizeLine]), kq hx _ _ (.list .tmp ws) (push_keeps _ _) ⟨_, rfl, fresh_top _, vs, ⟨0, Heap.get?_push_size _ rfl⟩, rp⟩ hk⟩
  | tup hn h =>
    refine wpAny_Tuple (evs_sound ihE hR K hes _ _ s _ r hn h fun vs s₁ as hx rs hk => ?_)
    obtain ⟨ws, hw, hl, hk⟩ := hk
    have rp := scs_reps rs hw
    refine ⟨by rw [rp.length]; exact Nat.le_trans hl (by simp [sizeLine]), kq hx _ _ (.tup ws) (push_keeps _ _) ⟨_, rfl, vs, ⟨_, Heap.get?_push_size _ rfl, rfl, _, rfl⟩, rp⟩ hk⟩
  | meth hn hlen hat hln h =>
    -- methods
    rename_i o nm ap pos args
    refine wpAny_Call_method_late (attr_plain hat) ?_ hln rfl (ihE u es ρ _ _ A env own s _ _ hR K hes r h fun v s₁ a hx ra hk => ?_)
    · have := star_all (env := env) (pos := pos) hn
      simp [this, backToKw, show keywordEach [] env = [] from rfl]
      omega
    · exact meth_step ihE hR K hes (r.ext hx.ext) hn hk.1 hk.2 ra fun v s' a hx2 hs ka => hQ v s' (.sc a) (hx.trans hx2) hs ka
  | call hn h =>
    refine wpAny_Call_NameR (ihE u es ρ _ _ A env own s _ _ hR K hes r h fun f s₁ a hx ra hk => ?_)
    have r₁ := r.ext hx.ext
    cases hk with
    | fn hk =>
      obtain ⟨hlv, hub, hk⟩ := hk
      rename_i key
      have C : FnOk W (S key) f := ra
      refine callee_call C.callee hn (evs_sound ihE hR K hes _ _ s₁ _ r₁ hn hk fun vs s₂ as hx₂ rs hk₂ => ?_)
      have r₂ := r₁.ext hx₂.ext
      refine ⟨r₂.gw, C.run A s₂ vs as k _ _ (hR.le hlv) r₂.gw rs.args hk₂ fun v s₃ b hx₃ ans kb => ?_⟩
      exact hQ _ _ _ ((hx.trans hx₂).trans (hx₃.up hub)) (ans.res.back r.gw.tok (hx.trans hx₂).ext) kb
    | ty hk =>
      obtain ⟨rfl, hk⟩ := hk
      cases ra
      refine callee_call (.inr (.inl ⟨_, rfl⟩)) hn ?_
      rw [star_plain (noStar_head hn).1]
      refine spliced_cons (ihE u es ρ _ _ A env own s₁ _ _ hR K hes r₁ hk fun v s₂ b hx₂ rb hk₂ => spliced_nil ?_)
      have r₂ := r₁.ext hx₂.ext
      refine ⟨r₂.gw, ?_⟩
      cases b with
      | list tg ws =>
        obtain ⟨l, rfl, it, ⟨n, hp⟩, rr⟩ := rb.list
        refine call_reversed_list ⟨_, hp, rfl, _, rfl⟩ (kq (hx.trans hx₂) _ _ (.rev tg ws) (push_keeps _ _) ⟨_, l, it, rfl, fun hs => ?_, fresh_top _, ⟨_, Heap.get?_push_size _ rfl, rfl, ?_⟩, ⟨_, Heap.get?_push_of_some _ hp, rfl, _, rfl⟩, rr, Nat.ne_of_lt (lt_of_some hp)⟩ hk₂.2)
        · subst hs
          obtain ⟨l', e, h1, _⟩ := rb
          cases e; exact h1
        · simp only [List.size_toArray]; rfl
      | _ => exact hk₂.elim
  | comp hs hok g h =>
    rename_i elt iter t tp spos sc
    have hok' := hok
    simp only [compOk, Bool.and_eq_true, List.all_eq_true] at hok'
    obtain ⟨⟨⟨⟨⟨h1, h2⟩, h3⟩, h4⟩, h5⟩, h6⟩ := hok'
    obtain ⟨cl, hcl, hcl'⟩ := closure_ok (env := env) (sc := sc) fun y hy hf => by
      have := h5 y hy
      rw [hf] at this
      exact K.cel _ (hes _ _ (by simpa using this))
    refine wpAny_ListComp_free (fun _ => true) (fun v y => ∃ a, SRep v a ∧ SRep y (g a)) hcl (fun y hy => by simpa using h1 y hy) (beq_iff_eq.mp h2) (fun y hy hl => ?_) (kindIn_iff.mp h4)
      (comp_core ihE hR K hes r hok hcl' h fun it s₂ hc => ?_) (fun x => hs x env)
    · have := h3 y hy
      rw [hl] at this
      exact kindIn_iff.mp (by simpa using this)
    · obtain ⟨I, fp, vs, P, St, rfl, hw, hst, hfp, hq, hx, hn, ⟨o, ho, hi⟩, hlen, hP, hk, r₂⟩ := hc
      refine ⟨I, fp, [I], vs.length, P, St, rfl, hw, Nat.le_trans hlen (by simp [sizeLine]), hst, hfp, hq, fun D h' tk ys vals hD _ hp hl hv hF hkeep => ?_⟩
      have hext : Heap.ExtBut I s₂.heap h' := fun b o hb e => hkeep b o (by simpa using hb) e
      exact hQ _ _ (.list .tmp (vs.map g)) (hx.mutFresh hn ho hi.1 hext) ⟨D, rfl, none_back hD r.gw.tok hx.ext, comp_list hP hp hl hv hF⟩ hk
theorem ev_all (W : Wd) (S : Nat → Sig) (R : Nat) : ∀ n, EvOk W S R n ∧ TsOk W S R n ∧ PtOk W S R n
  | 0 => ⟨fun _ _ _ _ _ _ _ _ _ _ _ _ _ _ _ h => h.elim, fun _ _ _ _ _ _ _ _ _ _ _ _ _ _ _ h => h.elim, fun _ _ _ _ _ _ _ _ _ _ _ _ _ _ _ h => h.elim⟩
  | n + 1 => by
    obtain ⟨h1, h2, h3⟩ := ev_all W S R n
    exact ⟨ev_step h1 h2 h3, ts_step h1 h2, pt_step h1⟩
end
end
section
open PySem PySem.W PyProof.Rows PySem.Calls PyProof.V PySem.Spec PySem.SeqAt

theorem GW.mut {W : Wd} {h h' : Heap} {b : Addr} {o : Obj} (x : GW W h) (hg : W.g.get? b = none) (ho : h.get? b = some o) (hm : Mut o) (e : Heap.ExtBut b h h') : GW W h' :=
  ⟨fun c ob hb => e c ob (by rintro rfl; rw [hg] at hb; cases hb) (x.keep c ob hb), W.tom _ _ _ _ x.tok ho hm e⟩
theorem LRep.mutNe {h h' : Heap} {b l : Addr} {o : Obj} {vs : List SV} (x : LRep h l vs) (ho : h.get? b = some o) (hd : ∀ it n, o.data ≠ .seq it n) (e : Heap.ExtBut b h h') : LRep h' l vs :=
  x.at1 fun o' h1 => e _ _ (by
    rintro rfl
    obtain ⟨o2, it, n, h2, _, h3⟩ := x.obj
    rw [ho] at h2; cases h2; exact hd _ _ h3) h1
theorem VRep.mutNe {F : Nat → Value → Prop} {own : Option Addr} {h h' : Heap} {b : Addr} {o : Obj} {v : Value} {a : AV} (x : VRep F own h v a) (ho : h.get? b = some o) (hd : ∀ it n, o.data ≠ .seq it n) (e : Heap.ExtBut b h h') : VRep F own h' v a := by
  cases a with
  | list t ws => cases t with
    | tmp => exact x
    | shr => obtain ⟨l, rfl, q, z⟩ := x; exact ⟨l, rfl, q, z.mutNe ho hd e⟩
    | own => obtain ⟨l, rfl, q, z⟩ := x; exact ⟨l, rfl, q, z.mutNe ho hd e⟩
  | _ => exact x

/-- a function's frame, s₀ the state ahead of it -/
structure FS (W : Wd) (S : Nat → Sig) (u : Bool) (env : Env) (own : Option Addr) (ρ : Loc) (s₀ s : Shared) : Prop where
  rs : RS W S env own ρ s.heap
  gk : ∀ b o, W.g.get? b = some o → s₀.heap.get? b = some o
  ex : Ex W u s₀ s
  loc : ∃ m, s.heap.Ns env.locals m
  ln : s₀.heap.get? env.locals = none
  cell : ∀ x, env.kindOf x = some .cell → ∃ c v, env.cells.lookup x = some c ∧ s.heap.IsCell c v ∧ s₀.heap.get? c = none
  apart : ∀ x y c, env.cells.lookup x = some c → env.cells.lookup y = some c → x = y
  on : ∀ l, own = some l → s₀.heap.get? l = none

section
variable {A : Around} {E : Value → Shared → Prop} {W : Wd} {S : Nat → Sig} {u : Bool} {env : Env} {own : Option Addr} {ρ : Loc} {s₀ s : Shared}

theorem FS.gnone (F : FS W S u env own ρ s₀ s) {b : Addr} (h : s₀.heap.get? b = none) : W.g.get? b = none := by
  cases hq : W.g.get? b with
  | none => rfl
  | some o => have := F.gk _ _ hq; rw [h] at this; cases this
theorem FS.ext (F : FS W S u env own ρ s₀ s) {s' : Shared} (e : Ex W u s s') : FS W S u env own ρ s₀ s' :=
  ⟨F.rs.ext e.ext, F.gk, F.ex.trans e, let ⟨m, h⟩ := F.loc; ⟨m, Ns.ext h F.rs.gw.tok e.ext⟩, F.ln,
    fun x hx => let ⟨c, v, h1, h2, h3⟩ := F.cell x hx; ⟨c, v, h1, IsCell.ext h2 F.rs.gw.tok e.ext, h3⟩, F.apart, F.on⟩

theorem look_setv (x y : Str) (a : AV) (ρ : Loc) : look y (setv x a ρ) = if y = x then some a else look y ρ := by
  split
  · rename_i h; subst h; exact look_setv_self _ _ _
  · rename_i h; exact look_setv_ne _ h _

/-- a name bound -/
theorem FS.store (F : FS W S u env own ρ s₀ s) (K : EnvOk env) {x : Str} {v : Value} {a : AV} (hk : env.kindOf x = some .local ∨ env.kindOf x = some .cell) (hd : (x == ("__debug__" : Str)) = false)
    (hv : VRep (Fk W S) own s.heap v a) {Q : Unit → Shared → Prop}
    (hQ : ∀ s', FS W S u env own (setv x a ρ) s₀ s' → (∀ v b, VRep (Fk W S) own s.heap v b → VRep (Fk W S) own s'.heap v b) → Q () s') : wpAny (model W.prog W.w) A (storeName env x v) Q E s := by
  rcases hk with hk | hk
  · obtain ⟨m, hm⟩ := F.loc
    have hm0 := hm
    obtain ⟨oL, es, ep, hoL, hdL, hsk, hfind⟩ := hm0
    have hMut : Mut oL := fun vs hvs => by rw [hdL] at hvs; cases hvs
    have hns : ∀ it n, oL.data ≠ .seq it n := fun it n q => by rw [hdL] at q; cases q
    refine wpAny_storeName_local hk hm (fun h' hn hs => hQ _ ?_ ?_) (by rw [K.kind]; rfl)
    · have e : Heap.ExtBut env.locals s.heap h' := hs.extBut
      have gw' := F.rs.gw.mut (F.gnone F.ln) hoL hMut e
      have cellK : ∀ c w, s.heap.IsCell c w → h'.IsCell c w := fun c w hc => by
        obtain ⟨o, h1, h2⟩ := hc
        exact ⟨o, e _ _ (by rintro rfl; rw [hoL] at h1; cases h1; rw [hdL] at h2; cases h2) h1, h2⟩
      refine ⟨⟨gw', fun y b hy => ?_, fun l hl => ?_⟩, F.gk, F.ex.mutFresh F.ln hoL hMut e, ⟨_, hn⟩, F.ln, fun y hy => ?_, F.apart, F.on⟩
      · rw [look_setv] at hy
        by_cases hyx : y = x
        · rw [if_pos hyx, Option.some.injEq] at hy
          subst hyx; subst hy
          exact ⟨v, ⟨hd, .inl ⟨hk, _, hn, by simp⟩⟩, hv.mutNe hoL hns e⟩
        · rw [if_neg hyx] at hy
          obtain ⟨w, rd, vr⟩ := F.rs.var y b hy
          refine ⟨w, ⟨rd.1, ?_⟩, vr.mutNe hoL hns e⟩
          rcases rd.2 with ⟨k, m2, hn2, hv2⟩ | ⟨k, c, hc, hv2⟩ | ⟨k, hcd, c, hc, hv2⟩ | ⟨k, hv2⟩ | ⟨k, hv2, hn2, hb⟩
          · refine .inl ⟨k, _, hn, ?_⟩
            simp only [if_neg hyx]
            rw [hm.agree hn2]; exact hv2
          · exact .inr (.inl ⟨k, c, hc, cellK _ _ hv2⟩)
          · exact .inr (.inr (.inl ⟨k, hcd, c, hc, cellK _ _ hv2⟩))
          · exact .inr (.inr (.inr (.inl ⟨k, hv2⟩)))
          · exact .inr (.inr (.inr (.inr ⟨k, hv2, hn2, hb⟩)))
      · obtain ⟨o, it, n, ho, hc, hdd⟩ := F.rs.ow l hl
        exact ⟨o, it, n, e _ _ (by rintro rfl; rw [hoL] at ho; cases ho; exact hns _ _ hdd) ho, hc, hdd⟩
      · obtain ⟨c, w, h1, h2, h3⟩ := F.cell y hy
        exact ⟨c, w, h1, cellK _ _ h2, h3⟩
    · intro w b hw
      exact hw.mutNe hoL hns hs.extBut
  · obtain ⟨c, w, hc, hcell, hcn⟩ := F.cell x hk
    have hcell0 := hcell
    obtain ⟨oC, hoC, hdC⟩ := hcell0
    have hMut : Mut oC := fun vs hvs => by rw [hdC] at hvs; cases hvs
    have hns : ∀ it n, oC.data ≠ .seq it n := fun it n q => by rw [hdC] at q; cases q
    refine wpAny_storeName_cell K.kind hk hc hcell fun h' hn hs => hQ _ ?_ ?_
    · have e : Heap.ExtBut c s.heap h' := hs.extBut
      have gw' := F.rs.gw.mut (F.gnone hcn) hoC hMut e
      have nsK : ∀ L m, s.heap.Ns L m → h'.Ns L m := fun L m hm => by
        refine hm.at' fun o ho => e _ _ (fun q => ?_) ho
        subst q
        obtain ⟨o', es, ep, h1, h2, _⟩ := hm
        rw [hoC] at h1; cases h1; rw [hdC] at h2; cases h2
      have cellK : ∀ d w, d ≠ c → s.heap.IsCell d w → h'.IsCell d w := fun d w hne hd => by
        obtain ⟨o, h1, h2⟩ := hd
        exact ⟨o, e _ _ hne h1, h2⟩
      refine ⟨⟨gw', fun y b hy => ?_, fun l hl => ?_⟩, F.gk, F.ex.mutFresh (tk := s.toks) hcn hoC hMut e, let ⟨m, h⟩ := F.loc; ⟨m, nsK _ _ h⟩, F.ln, fun y hy => ?_, F.apart, F.on⟩
      · rw [look_setv] at hy
        by_cases hyx : y = x
        · rw [if_pos hyx, Option.some.injEq] at hy
          subst hyx; subst hy
          exact ⟨v, ⟨hd, .inr (.inl ⟨hk, c, hc, hn⟩)⟩, hv.mutNe hoC hns e⟩
        · rw [if_neg hyx] at hy
          obtain ⟨w, rd, vr⟩ := F.rs.var y b hy
          refine ⟨w, ⟨rd.1, ?_⟩, vr.mutNe hoC hns e⟩
          rcases rd.2 with ⟨k, m2, hn2, hv2⟩ | ⟨k, d, hd', hv2⟩ | ⟨k, hcd, d, hd', hv2⟩ | ⟨k, hv2⟩ | ⟨k, hv2, hn2, hb⟩
          · exact .inl ⟨k, m2, nsK _ _ hn2, hv2⟩
          · exact .inr (.inl ⟨k, d, hd', cellK _ _ (by rintro rfl; exact hyx (F.apart _ _ _ hd' hc)) hv2⟩)
          · exact .inr (.inr (.inl ⟨k, hcd, d, hd', cellK _ _ (by rintro rfl; exact hyx (F.apart _ _ _ hd' hc)) hv2⟩))
          · exact .inr (.inr (.inr (.inl ⟨k, hv2⟩)))
          · exact .inr (.inr (.inr (.inr ⟨k, hv2, hn2, hb⟩)))
      · obtain ⟨o, it, n, ho, hc', hdd⟩ := F.rs.ow l hl
        exact ⟨o, it, n, e _ _ (by rintro rfl; rw [hoC] at ho; cases ho; exact hns _ _ hdd) ho, hc', hdd⟩
      · obtain ⟨d, w', h1, h2, h3⟩ := F.cell y hy
        by_cases hyx : y = x
        · subst hyx
          rw [hc] at h1; cases h1
          exact ⟨c, _, hc, hn, hcn⟩
        · exact ⟨d, w', h1, cellK _ _ (by rintro rfl; exact hyx (F.apart _ _ _ h1 hc)) h2, h3⟩
    · intro w' b hw
      exact hw.mutNe hoC hns hs.extBut

/-- an iterator turned -/
theorem FS.mutIter (F : FS W S u env own ρ s₀ s) {I : Addr} {o : Obj} {h' : Heap} {tk : Nat} (hn : s₀.heap.get? I = none) (ho : s.heap.get? I = some o) (hi : IterObj o) (e : Heap.ExtBut I s.heap h') :
    FS W S u env own ρ s₀ { s with heap := h', toks := tk } := by
  have hi' := hi
  obtain ⟨hm, vs, hd⟩ := hi'
  refine ⟨F.rs.mut (F.gnone hn) ho hi e, F.gk, F.ex.mutFresh hn ho hm e, ?_, F.ln, fun x hx => ?_, F.apart, F.on⟩
  · obtain ⟨m, hm⟩ := F.loc
    refine ⟨m, hm.at' fun ob hob => e _ _ (fun q => ?_) hob⟩
    subst q
    obtain ⟨o', es, ep, h1, h2, _⟩ := hm
    rw [ho] at h1; cases h1; rw [hd] at h2; cases h2
  · obtain ⟨c, v, h1, ⟨oc, h2, h3⟩, h4⟩ := F.cell x hx
    exact ⟨c, v, h1, ⟨oc, e _ _ (by rintro rfl; rw [ho] at h2; cases h2; rw [hd] at h3; cases h3) h2, h3⟩, h4⟩

noncomputable def hid (env : Env) (own : Option Addr) : List Addr :=
  env.locals :: (own.toList ++ env.cells.filterMap fun y => if env.kindOf y.1 == some .cell then env.cells.lookup y.1 else none)
theorem mem_hid {b : Addr} : b ∈ hid env own ↔ b = env.locals ∨ own = some b ∨ ∃ x, env.kindOf x = some .cell ∧ env.cells.lookup x = some b := by
  simp only [hid, List.mem_cons, List.mem_append, Option.mem_toList, List.mem_filterMap]
  refine or_congr Iff.rfl (or_congr Iff.rfl ?_)
  constructor
  · rintro ⟨y, hy, h⟩
    split at h
    · rename_i hk; exact ⟨y.1, beq_iff_eq.mp hk, h⟩
    · cases h
  · rintro ⟨x, hk, hc⟩
    exact ⟨(x, b), mem_of_lookup hc, by simp [hk, hc]⟩

theorem RRep.base {F : Nat → Value → Prop} {h₁ h₀ h : Heap} {v : Value} {a : AV} (hb : ∀ l, h₁.get? l = none → h₀.get? l = none) (x : RRep F own h₁ h v a) : RRep F own h₀ h v a := by
  cases a with
  | list tg vs =>
    cases tg with
    | tmp => obtain ⟨l, rfl, hn, x⟩ := x; exact ⟨l, rfl, hb l hn, x⟩
    | shr => exact x
    | own => exact x
  | rev _ vs =>
    obtain ⟨I, l, items, rfl, how, hn, x⟩ := x
    exact ⟨I, l, items, rfl, how, hb I hn, x⟩
  | _ => exact x
theorem ExtU.nback {W : Wd} {a b : Shared} (e : ExtU W a b) (t : W.TOk b.heap) {l : Addr} (h : b.heap.get? l = none) : a.heap.get? l = none := by
  cases hq : a.heap.get? l with
  | none => rfl
  | some o =>
    by_cases hb : W.tb l
    · obtain ⟨ps, hp⟩ := W.tin _ t l hb
      rw [hp] at h; cases h
    · rw [e.keep l o hb hq] at h; cases h

/-- a new base: all but the frame's own -/
theorem FS.rebase (F : FS W S u env own ρ s₀ s) : ∃ s₁, FS W S u env own ρ s₁ s ∧ (∀ s' own' ρ', FS W S u env own' ρ' s₁ s' → FS W S u env own' ρ' s₀ s') ∧
    (∀ b o, s.heap.get? b = some o → b ∉ hid env own → s₁.heap.get? b = some o) ∧ (∀ l, s₁.heap.get? l = none → s₀.heap.get? l = none) ∧ s₁.gens = s.gens := by
  have hnone : ∀ b ∈ hid env own, s₀.heap.get? b = none := by
    intro b hb
    rcases mem_hid.mp hb with rfl | hb | ⟨x, hk, hc⟩
    · exact F.ln
    · exact F.on _ hb
    · obtain ⟨c, v, h1, _, h3⟩ := F.cell x hk
      rw [hc] at h1; cases h1; exact h3
  have keepH : ∀ b o, (hideAll s.heap (hid env own)).get? b = some o → s.heap.get? b = some o := fun b o => of_hideAll _
  have old : ∀ b o, s₀.heap.get? b = some o → b ∉ hid env own := fun b o e hb => by rw [hnone b hb] at e; cases e
  have e₁ : Ex W u { s with heap := hideAll s.heap (hid env own) } s := .of_keeps ⟨s.heap, s.toks, rfl, keepH⟩
  refine ⟨{ s with heap := hideAll s.heap (hid env own) }, ⟨F.rs, fun b o hb => ?_, e₁, F.loc, hideAll_none _ (mem_hid.mpr (.inl rfl)), fun x hx => ?_, F.apart, fun l hl => hideAll_none _ (mem_hid.mpr (.inr (.inl hl)))⟩, ?_, fun b o hb hn => hideAll_get _ hb hn, ?_, rfl⟩
  · exact hideAll_get _ (F.rs.gw.keep _ _ hb) (old b o (F.gk _ _ hb))
  · obtain ⟨c, v, h1, h2, h3⟩ := F.cell x hx
    exact ⟨c, v, h1, h2, hideAll_none _ (mem_hid.mpr (.inr (.inr ⟨x, hx, h1⟩)))⟩
  · intro s' own' ρ' F'
    have nb : ∀ l, (hideAll s.heap (hid env own)).get? l = none → s₀.heap.get? l = none := fun l hl => by
      cases hq : s₀.heap.get? l with
      | none => rfl
      | some o =>
        have : s.heap.get? l = none := by
          cases hs : s.heap.get? l with
          | none => rfl
          | some o' => rw [hideAll_get _ hs (old l o hq)] at hl; cases hl
        rw [F.ex.ext.nback F.rs.gw.tok this] at hq; cases hq
    refine ⟨F'.rs, F.gk, ?_, F'.loc, F.ln, fun x hx => ?_, F.apart, fun l hl => nb l (F'.on l hl)⟩
    · cases u with
      | false =>
        have x : Keeps s₀ s := by simpa [Ex] using F.ex
        have y : Keeps { s with heap := hideAll s.heap (hid env own) } s' := by simpa [Ex] using F'.ex
        obtain ⟨h, t, rfl, k⟩ := x
        obtain ⟨h', t', rfl, k'⟩ := y
        simp only [Ex, Bool.false_eq_true, if_false]
        exact ⟨h', t', rfl, fun b o e => k' b o (hideAll_get _ (k b o e) (old b o e))⟩
      | true =>
        have x : ExtU W s₀ s := by simpa [Ex] using F.ex
        have y : ExtU W { s with heap := hideAll s.heap (hid env own) } s' := by simpa [Ex] using F'.ex
        simp only [Ex, if_true]
        exact ⟨fun b o hb e => y.keep b o hb (hideAll_get _ (x.keep b o hb e) (old b o e)), fun _ => F'.rs.gw.tok, y.os.trans x.os, fun i z e => y.gens i z (x.gens i z e), fun e => y.bare (x.bare e)⟩
    · obtain ⟨c, v, h1, h2, _⟩ := F'.cell x hx
      obtain ⟨c', v', h1', _, h3⟩ := F.cell x hx
      rw [h1] at h1'; cases h1'
      exact ⟨c, v, h1, h2, h3⟩
  · intro l hl
    cases hq : s₀.heap.get? l with
    | none => rfl
    | some o =>
      have : s.heap.get? l = none := by
        cases hs : s.heap.get? l with
        | none => rfl
        | some o' => rw [hideAll_get _ hs (old l o hq)] at hl; cases hl
      rw [F.ex.ext.nback F.rs.gw.tok this] at hq; cases hq
end
end
section
open PySem PySem.W PyProof.Rows PySem.Calls PyProof.V PySem.Spec PySem.SeqAt

noncomputable def isOwnTag : AV → Bool
  | .list .own _ => true
  | _ => false
noncomputable def noOwn : Loc → Bool
  | [] => true
  | (_, a) :: r => !isOwnTag a && noOwn r
noncomputable def noOwnBut (x : Str) : Loc → Bool
  | [] => true
  | (y, a) :: r => if x = y then noOwnBut x r else !isOwnTag a && noOwnBut x r
noncomputable def stOne (on x : Str) (ρ : Loc) (a : AV) (k : AV → Prop) : Prop := match a with
  | .sc v => k (.sc v)
  | .list .tmp vs => if x = on then noOwn ρ = true ∧ k (.list .own vs) else k (.list .shr vs)
  | .list .shr vs => k (.list .shr vs)
  | .fn f => k (.fn f)
  | _ => False
noncomputable def stMany (on : Str) (ρ : Loc) : List Str → List AV → (List AV → Prop) → Prop
  | [], [], k => k []
  | x :: xs, .sc v :: as, k => stMany on ρ xs as fun bs => k (.sc v :: bs)
  | x :: xs, .list .tmp vs :: as, k => x = on ∧ noOwn ρ = true ∧ as.length = xs.length ∧ (scs as).isSome = true ∧ k (.list .own vs :: as)
  | _, _, _ => False
noncomputable def setMany : List Str → List AV → Loc → Loc
  | x :: xs, a :: as, ρ => setMany xs as (setv x a ρ)
  | _, _, ρ => ρ
noncomputable def dropv (x : Str) : Loc → Loc
  | [] => []
  | (y, a) :: r => if x = y then dropv x r else (y, a) :: dropv x r
noncomputable def memN (x : Str) : List Str → Bool
  | [] => false
  | y :: r => if x = y then true else memN x r
noncomputable def keepv (ns : List Str) : Loc → Loc
  | [] => []
  | (y, a) :: r => if memN y ns = true then (y, a) :: keepv ns r else keepv ns r
noncomputable def names (ρ : Loc) : List Str := ρ.map (·.1)

theorem look_keepv (ns : List Str) (x : Str) : ∀ ρ : Loc, look x (keepv ns ρ) = if memN x ns = true then look x ρ else none
  | [] => by simp [keepv, look]
  | (y, a) :: r => by
    have ih := look_keepv ns x r
    unfold keepv
    by_cases hy : memN y ns = true
    · rw [if_pos hy]
      by_cases hx : x = y
      · subst hx; simp [look, hy]
      · simp only [look, if_neg hx]; exact ih
    · rw [if_neg hy, ih]
      by_cases hx : x = y
      · subst hx; simp [hy]
      · simp [look, if_neg hx]
theorem look_dropv (x y : Str) : ∀ ρ : Loc, look y (dropv x ρ) = if y = x then none else look y ρ
  | [] => by simp [dropv, look]
  | (z, a) :: r => by
    have ih := look_dropv x y r
    unfold dropv
    by_cases hz : x = z
    · subst hz
      rw [if_pos rfl, ih]
      by_cases hy : y = x
      · simp [hy]
      · simp [look, hy]
    · rw [if_neg hz]
      by_cases hy : y = z
      · subst hy
        simp [look, Ne.symm hz]
      · simp only [look, if_neg hy]; exact ih

theorem noOwn_look : ∀ {ρ : Loc}, noOwn ρ = true → ∀ {x : Str} {vs : List SV}, look x ρ ≠ some (.list .own vs)
  | [], _, _, _ => by simp [look]
  | (y, a) :: r, h, x, vs => by
    simp only [noOwn, Bool.and_eq_true] at h
    unfold look
    split
    · intro e; cases e; simp [isOwnTag] at h
    · exact noOwn_look h.2
theorem noOwnBut_look : ∀ {ρ : Loc} {x : Str}, noOwnBut x ρ = true → ∀ {y : Str} {vs : List SV}, y ≠ x → look y ρ ≠ some (.list .own vs)
  | [], _, _, _, _, _ => by simp [look]
  | (z, a) :: r, x, h, y, vs, hne => by
    unfold noOwnBut at h
    unfold look
    split
    · rename_i hyz
      subst hyz
      rw [if_neg (Ne.symm hne)] at h
      simp only [Bool.and_eq_true] at h
      intro e; cases e; simp [isOwnTag] at h
    · split at h
      · exact noOwnBut_look h hne
      · simp only [Bool.and_eq_true] at h
        exact noOwnBut_look h.2 hne

section
variable {A : Around} {E : Value → Shared → Prop} {W : Wd} {S : Nat → Sig} {u : Bool} {env : Env} {own : Option Addr} {ρ : Loc} {s₀ s₁ s : Shared}

theorem FS.sub (F : FS W S u env own ρ s₀ s) {ρ' : Loc} (h : ∀ x a, look x ρ' = some a → look x ρ = some a) : FS W S u env own ρ' s₀ s :=
  { F with rs := ⟨F.rs.gw, fun x a hx => F.rs.var x a (h x a hx), F.rs.ow⟩ }

/-- the frame's own list is another one from here -/
theorem FS.switch (F : FS W S u env own ρ s₀ s₁) (e : Ex W u s₁ s) (hn : noOwn ρ = true) {l : Addr} {vs : List SV} (hl : s₁.heap.get? l = none) (hr : LRep s.heap l vs) : FS W S u env (some l) ρ s₀ s := by
  have F' := F.ext e
  refine { F' with rs := ⟨F'.rs.gw, fun y b hy => ?_, fun l' hl' => ?_⟩, on := fun l' hl' => ?_ }
  · obtain ⟨v, rd, vr⟩ := F.rs.var y b hy
    refine ⟨v, rd.ext F.rs.gw.tok e.ext, ?_⟩
    have vr' := vr.ext F.rs.gw.tok e.ext
    cases b with
    | list t ws => cases t with
      | tmp => exact vr'
      | own => exact absurd hy (noOwn_look hn)
      | shr =>
        obtain ⟨l₁, rfl, q, z⟩ := vr
        obtain ⟨l₂, e₂, _, z₂⟩ := vr'
        cases e₂
        refine ⟨l₁, rfl, fun q => ?_, z₂⟩
        cases q
        obtain ⟨o, it, n, ho, _⟩ := z.obj
        rw [hl] at ho; cases ho
    | _ => exact vr'
  · cases hl'
    obtain ⟨o, it, n, ho, hc, hd⟩ := hr.obj
    exact ⟨o, it, n, ho, hc, hd⟩
  · cases hl'
    exact F.ex.ext.nback F.rs.gw.tok hl

theorem FS.stOne (F : FS W S u env own ρ s₀ s₁) (e : Ex W u s₁ s) {on x : Str} {a : AV} {v : Value} {k : AV → Prop} (ra : RRep (Fk W S) own s₁.heap s.heap v a) (h : stOne on x ρ a k) :
    ∃ own' a', FS W S u env own' ρ s₀ s ∧ VRep (Fk W S) own' s.heap v a' ∧ k a' := by
  unfold Mine.stOne at h
  split at h
  · exact ⟨own, .sc _, F.ext e, ra, h⟩
  · obtain ⟨l, rfl, hl, hr⟩ := ra
    split at h
    · exact ⟨some l, .list .own _, F.switch e h.1 hl hr, ⟨l, rfl, rfl, hr⟩, h.2⟩
    · refine ⟨own, .list .shr _, F.ext e, ⟨l, rfl, fun q => ?_, hr⟩, h⟩
      obtain ⟨o, _, _, ho, _⟩ := F.rs.ow l q
      rw [hl] at ho; cases ho
  · exact ⟨own, .list .shr _, F.ext e, ra, h⟩
  · exact ⟨own, .fn _, F.ext e, ra, h⟩
  · exact h.elim

inductive VReps (F : Nat → Value → Prop) (own : Option Addr) (h : Heap) : List Value → List AV → Prop
  | nil : VReps F own h [] []
  | cons {v a vs as} : VRep F own h v a → VReps F own h vs as → VReps F own h (v :: vs) (a :: as)
theorem VReps.imp {F : Nat → Value → Prop} {own own' : Option Addr} {h h' : Heap} (k : ∀ v a, VRep F own h v a → VRep F own' h' v a) {vs as} (x : VReps F own h vs as) : VReps F own' h' vs as := by
  induction x with
  | nil => exact .nil
  | cons a _ ih => exact .cons (k _ _ a) ih
theorem scs_vreps {F : Nat → Value → Prop} {own own' : Option Addr} {h₀ h h' : Heap} {vs : List Value} {as : List AV} (x : RReps F own h₀ h vs as) (e : (scs as).isSome = true) : VReps F own' h' vs as := by
  induction x with
  | nil => exact .nil
  | cons ra rr ih =>
    rename_i v a vs as
    cases a with
    | sc a => exact .cons (a := .sc _) ra (ih (by rw [← e]; exact (Option.isSome_map ..).symm))
    | _ => cases e

theorem FS.stMany (F : FS W S u env own ρ s₀ s₁) (e : Ex W u s₁ s) {on : Str} : ∀ {xs : List Str} {as : List AV} {vs : List Value} {k : List AV → Prop}, RReps (Fk W S) own s₁.heap s.heap vs as → stMany on ρ xs as k →
    ∃ own' bs, FS W S u env own' ρ s₀ s ∧ VReps (Fk W S) own' s.heap vs bs ∧ k bs ∧ bs.length = xs.length
  | xs, _, _, k, .nil, h => by
    cases xs with
    | nil => exact ⟨own, [], F.ext e, .nil, h, rfl⟩
    | cons _ _ => exact h.elim
  | xs, _, _, k, .cons (a := a) ra rr, h => by
    cases xs with
    | nil => cases a <;> exact h.elim
    | cons x xs =>
      cases a with
      | sc v =>
        obtain ⟨own', bs, F', vr, hk, hl⟩ := FS.stMany F e rr h
        exact ⟨own', .sc v :: bs, F', .cons (a := .sc v) ra vr, hk, by simp [hl]⟩
      | list t ws =>
        cases t with
        | tmp =>
          obtain ⟨rfl, hn, hlen, hsc, hk⟩ := h
          obtain ⟨l, rfl, hl, hr⟩ := ra
          exact ⟨some l, .list .own ws :: _, F.switch e hn hl hr, .cons (a := .list .own ws) ⟨l, rfl, rfl, hr⟩ (scs_vreps rr hsc), hk, by simp [hlen]⟩
        | _ => exact h.elim
      | _ => exact h.elim

noncomputable def nmOk (es : Scope) (x : Str) : Bool := (kindIn es.names x .local || kindIn es.names x .cell) && (x != ("__debug__" : Str))
theorem nmOk_kind {es : Scope} {x : Str} (h : nmOk es x = true) (hes : ∀ x k, kindIn es.names x k = true → env.kindOf x = some k) : (env.kindOf x = some .local ∨ env.kindOf x = some .cell) ∧ (x == ("__debug__" : Str)) = false := by
  simp only [nmOk, Bool.and_eq_true, Bool.or_eq_true] at h
  exact ⟨h.1.imp (hes _ _) (hes _ _), by simpa using h.2⟩
noncomputable def allNm (es : Scope) : List Str → Bool
  | [] => true
  | x :: r => nmOk es x && allNm es r

/-- several names bound -/
theorem look_setMany : ∀ (xs : List Str) (as : List AV) (ρ : Loc) (y : Str), xs.Nodup → look y (setMany xs as ρ) = ((xs.zip as).lookup y).or (look y ρ)
  | [], as, ρ, y, _ => by cases as <;> simp [setMany]
  | x :: xs, [], ρ, y, _ => by simp [setMany]
  | x :: xs, a :: as, ρ, y, h => by
    have h' := List.nodup_cons.mp h
    simp only [setMany, List.zip_cons_cons, List.lookup_cons]
    rw [look_setMany xs as _ y h'.2, look_setv]
    by_cases hy : y = x
    · subst hy
      have : (xs.zip as).lookup y = none := by
        cases hq : (xs.zip as).lookup y with
        | none => rfl
        | some b => exact absurd (List.of_mem_zip (Mine.mem_of_lookup hq)).1 h'.1
      simp [this]
    · have hb : (y == x) = false := by simpa using hy
      simp [hb, hy]
theorem lookup_mem_nodup {l : List (Str × AV)} {y : Str} {a : AV} (h : (l.map (·.1)).Nodup) (hm : (y, a) ∈ l) : l.lookup y = some a := by
  induction l with
  | nil => cases hm
  | cons p r ih =>
    obtain ⟨z, b⟩ := p
    simp only [List.map_cons, List.nodup_cons] at h
    rw [List.lookup_cons]
    rcases List.mem_cons.mp hm with e | hm
    · cases e; simp
    · have hne : y ≠ z := fun q => h.1 (List.mem_map.mpr ⟨(y, a), hm, q⟩)
      have hb : (y == z) = false := by simpa using hne
      rw [hb]; exact ih h.2 hm
theorem nodup_rev {α : Type} {l : List α} (h : l.Nodup) : l.reverse.Nodup := List.pairwise_reverse.mpr (h.imp fun q => Ne.symm q)
theorem lookup_reverse_nodup {l : List (Str × AV)} (h : (l.map (·.1)).Nodup) (y : Str) : l.reverse.lookup y = l.lookup y := by
  cases hq : l.lookup y with
  | some a =>
    exact lookup_mem_nodup (by rw [List.map_reverse]; exact nodup_rev h) (List.mem_reverse.mpr (Mine.mem_of_lookup hq))
  | none =>
    cases hr : l.reverse.lookup y with
    | none => rfl
    | some b => rw [lookup_mem_nodup h (List.mem_reverse.mp (Mine.mem_of_lookup hr))] at hq; cases hq
theorem zip_rev : ∀ (xs : List Str) (as : List AV), as.length = xs.length → xs.reverse.zip as.reverse = (xs.zip as).reverse
  | [], [], _ => rfl
  | x :: xs, a :: as, h => by
    simp only [List.reverse_cons, List.zip_cons_cons]
    rw [List.zip_append (by simpa using h.symm), zip_rev xs as (by simpa using h)]
    rfl
  | [], _ :: _, h => by simp at h
  | _ :: _, [], h => by simp at h
theorem look_setMany_reverse (xs : List Str) (as : List AV) (ρ : Loc) (y : Str) (h : xs.Nodup) (hl : as.length = xs.length) : look y (setMany xs.reverse as.reverse ρ) = look y (setMany xs as ρ) := by
  rw [look_setMany _ _ _ _ h, look_setMany _ _ _ _ (nodup_rev h), zip_rev _ _ hl, lookup_reverse_nodup]
  rw [List.map_fst_zip (by simp [hl])]
  exact h
end
end
section
open PySem PySem.W PyProof.Rows PySem.Calls PyProof.V PySem.Spec PySem.SeqAt

inductive AugE (k : AV → Prop) : Operator → AV → AV → Prop
  | add {x y : Int} (h : k (aI (x + y))) : AugE k .Add (aI x) (aI y)
  | sub {x y : Int} (h : k (aI (x - y))) : AugE k .Sub (aI x) (aI y)
  | fd {x y : Int} (h0 : y ≠ 0) (h : k (aI (x.fdiv y))) : AugE k .FloorDiv (aI x) (aI y)
  | shl {x y : Int} (h0 : 0 ≤ y) (h1 : (Builtin.Int.intBits x : Int) + y ≤ 2 ^ 27) (h : k (aI (x * 2 ^ y.toNat))) : AugE k .LShift (aI x) (aI y)
  | shr {x y : Int} (h0 : 0 ≤ y) (h : k (aI (x.fdiv (2 ^ y.toNat)))) : AugE k .RShift (aI x) (aI y)
noncomputable abbrev augE (op : Operator) (a b : AV) (k : AV → Prop) : Prop := AugE k op a b

noncomputable def isComp (e : Expr) : Bool := Nat.ble 8 e.ctorIdx && Nat.ble e.ctorIdx 10
noncomputable def isTupE (e : Expr) : Bool := Nat.beq e.ctorIdx 25
noncomputable def nmE : Expr → Option Str
  | .Name x _ => some x
  | _ => none
noncomputable def nms : List Expr → Option (List Str)
  | [] => some []
  | e :: r => (nmE e).bind fun x => (nms r).map (x :: ·)
theorem nms_cons {e : Expr} {r : List Expr} {xs : List Str} (h : nms (e :: r) = some xs) : ∃ x p ys, e = .Name x p ∧ nms r = some ys ∧ xs = x :: ys := by
  obtain ⟨x, h1, h2⟩ := Option.bind_eq_some_iff.mp (show ((nmE e).bind fun x => (nms r).map (x :: ·)) = some xs from h)
  obtain ⟨ys, h3, rfl⟩ := Option.map_eq_some_iff.mp h2
  cases e with
  | Name y p => cases h1; exact ⟨_, _, _, rfl, h3, rfl⟩
  | _ => cases h1
noncomputable def distinctN : List Str → Bool
  | [] => true
  | x :: r => !memN x r && distinctN r
noncomputable def swB (es sc : Scope) (t : Str) (pl vl : Nat) : Bool := kindIn es.names t .local && pl == vl && !(sc.names.any fun y => y.1 == t && (y.2 == .local || y.2 == .cell))
noncomputable def alone (el : List Expr) : Bool := el.all (constantsAlone 8)

noncomputable def exs (f : Loc → Stmt → (Loc → Prop) → (AV → Prop) → Prop) : List Stmt → Loc → (Loc → Prop) → (AV → Prop) → Prop
  | [], ρ, kn, _ => kn ρ
  | st :: r, ρ, kn, kr => f ρ st (fun ρ' => exs f r ρ' kn kr) kr

noncomputable def itemOk : AV → Bool
  | .sc _ => true
  | .list .shr _ => true
  | _ => false
noncomputable def unr (f : Loc → (Loc → Prop) → Prop) (x : Str) : List AV → Loc → (Loc → Prop) → Prop
  | [], ρ, kn => kn ρ
  | a :: as, ρ, kn => f (setv x a ρ) fun ρ' => unr f x as ρ' kn

inductive TupK (k : List SV → Prop) : AV → Prop
  | tup {vs : List SV} (h : k vs) : TupK k (.tup vs)
noncomputable abbrev tupK (a : AV) (k : List SV → Prop) : Prop := TupK k a
inductive ScK (k : SV → Prop) : AV → Prop
  | sc {v : SV} (h : k v) : ScK k (.sc v)
noncomputable abbrev scK1 (a : AV) (k : SV → Prop) : Prop := ScK k a
inductive InK (k : Int → Prop) : AV → Prop
  | int {v : Int} (h : k v) : InK k (aI v)
noncomputable abbrev inK1 (a : AV) (k : Int → Prop) : Prop := InK k a
noncomputable abbrev ExT := Loc → Stmt → (Loc → Prop) → (AV → Prop) → Prop
inductive ExS (S : Nat → Sig) (R : Nat) (u : Bool) (N : Nat) (on : Str) (es : Scope) (ex : ExT) (ρ : Loc) (kn : Loc → Prop) (kr : AV → Prop) : Stmt → Prop
  | comp {x t : Str} {px tp p cp : Pos} {elt iter : Expr} {sc : Scope} (h0 : ∀ y env, foldedSetIterable iter env y = pure y) (h1 : compOk es sc t = true) (h2 : nmOk es x = true) (h3 : swB es sc x px.line cp.line = true) (h4 : x ≠ on) (g : SV → SV)
      (h : evE S R N u es ρ iter fun it => ∃ vs, iterV it = some vs ∧ vs.length ≤ 2 ^ 20 ∧
          (∀ v ∈ vs, evE S R N false noScope ((t, .sc v) :: cρ es sc ρ) elt fun a => a = .sc (g v)) ∧ kn (setv x (.list .shr (vs.map g)) ρ)) : ExS S R u N on es ex ρ kn kr (.Assign [.Name x px] (.ListComp elt [⟨.Name t tp, iter, [], 0⟩] sc cp) p)
  | as {x : Str} {px p : Pos} {e : Expr} (h0 : nmOk es x = true) (h1 : isComp e = false) (h : evE S R N u es ρ e fun a => stOne on x ρ a fun a' => kn (setv x a' ρ)) : ExS S R u N on es ex ρ kn kr (.Assign [.Name x px] e p)
  | tup {ts el : List Expr} {c c' : Nat} {p p' q : Pos} (xs : List Str) (h0 : nms ts = some xs) (h1 : allNm es xs = true) (h2 : distinctN xs = true) (h3 : noStar el = true) (h4 : alone el = false) (h5 : el.length = ts.length)
      (h : evs (evE S R N u es ρ) el fun as => as.length ≤ 2 ^ 20 ∧ stMany on ρ xs as fun bs => kn (setMany xs bs ρ)) : ExS S R u N on es ex ρ kn kr (.Assign [.Tuple ts c p] (.Tuple el c' p') q)
  | untup {ts : List Expr} {e : Expr} {c : Nat} {p q : Pos} (xs : List Str) (h0 : nms ts = some xs) (h1 : allNm es xs = true) (h2 : isTupE e = false) (h3 : isComp e = false)
      (h : evE S R N u es ρ e fun a => tupK a fun vs => vs.length = xs.length ∧ kn (setMany xs (vs.map .sc) ρ)) : ExS S R u N on es ex ρ kn kr (.Assign [.Tuple ts c p] e q)
  | put {x : Str} {px sp p : Pos} {i e : Expr} (h0 : isComp e = false) (h1 : noOwnBut x ρ = true) (h : evE S R N u es ρ e fun a => scK1 a fun v => ∃ vs, look x ρ = some (.list .own vs) ∧ evE S R N u es ρ i fun b => inK1 b fun j =>
          0 ≤ j ∧ j < vs.length ∧ vs.length ≤ 2 ^ 20 ∧ kn (setv x (.list .own (vs.set j.toNat v)) ρ)) : ExS S R u N on es ex ρ kn kr (.Assign [.Subscript (.Name x px) i sp] e p)
  | aug {x : Str} {px p : Pos} {op : Operator} {e : Expr} {a : AV} (h0 : nmOk es x = true) (h1 : kindIn es.names x .globalImplicit = false) (h2 : look x ρ = some a) (h : evE S R N u es ρ e fun b => augE op a b fun c => kn (setv x c ρ)) : ExS S R u N on es ex ρ kn kr (.AugAssign (.Name x px) op e p)
  | ife {t : Expr} {b o : List Stmt} {p : Pos} (h : tsE S R N u es ρ t fun c => (c = true → exs ex b ρ kn kr) ∧ (c = false → exs ex o ρ kn kr)) : ExS S R u N on es ex ρ kn kr (.If t b o p)
  | forU {x : Str} {px lp p : Pos} {el : List Expr} {body : List Stmt} (h0 : nmOk es x = true) (h1 : ∀ y env, foldedSetIterable (.List el lp) env y = pure y) (h2 : noStar el = true)
      (h : evs (evE S R N u es ρ) el fun as => as.length ≤ 2 ^ 20 ∧ as.all itemOk = true ∧ unr (fun ρ k => exs ex body ρ k kr) x as ρ kn) : ExS S R u N on es ex ρ kn kr (.For (.Name x px) (.List el lp) body [] p)
  | for {x : Str} {px p : Pos} {iter : Expr} {body : List Stmt} (h0 : nmOk es x = true) (h1 : ∀ y env, foldedSetIterable iter env y = pure y) (h : evE S R N u es ρ iter fun it => isOwn it = false ∧ ∃ vs, iterV it = some vs ∧ vs.length ≤ 2 ^ 20 ∧
        ∃ I : Nat → Loc → Prop, I 0 (dropv x ρ) ∧ (∀ i v ρ', vs[i]? = some v → I i ρ' → exs ex body ((x, .sc v) :: ρ') (fun ρ'' => I (i + 1) (keepv (names (dropv x ρ)) ρ'')) kr) ∧ ∀ ρ', I vs.length ρ' → kn ρ') : ExS S R u N on es ex ρ kn kr (.For (.Name x px) iter body [] p)
  | while {t : Expr} {body : List Stmt} {p : Pos} (I : Nat → Loc → Prop) (h0 : ∃ m, I m ρ) (h : ∀ m ρ', I m ρ' → tsE S R N u es ρ' t fun c => (c = true → exs ex body ρ' (fun ρ'' => ∃ m', m' < m ∧ I m' (keepv (names ρ) ρ'')) kr) ∧ (c = false → kn ρ')) : ExS S R u N on es ex ρ kn kr (.While t body [] p)
  | try {body o : List Stmt} {h0 : ExceptHandler} {hs : List ExceptHandler} {p : Pos} (h : exs ex body ρ (fun ρ' => exs ex o ρ' kn kr) kr) : ExS S R u N on es ex ρ kn kr (.Try body (h0 :: hs) o [] p)
  | pass {p : Pos} (h : kn ρ) : ExS S R u N on es ex ρ kn kr (.Pass p)
  | ret {e : Expr} {p : Pos} (h : evE S R N u es ρ e kr) : ExS S R u N on es ex ρ kn kr (.Return (some e) p)
  | app {x : Str} {px ap cp p : Pos} {e : Expr} {vs : List SV} (h0 : (ap.endLine == cp.line) = true) (h1 : noStar [e] = true) (h2 : noOwnBut x ρ = true) (h3 : look x ρ = some (.list .own vs)) (h : evE S R N u es ρ e fun a => scK1 a fun v =>
        vs.length ≤ 2 ^ 20 ∧ kn (setv x (.list .own (vs ++ [v])) ρ)) : ExS S R u N on es ex ρ kn kr (.Expr (.Call (.Attribute (.Name x px) (Str.ofString "append") ap) [e] [] cp) p)
  | rev {x : Str} {px ap cp p : Pos} {vs : List SV} (h0 : (ap.endLine == cp.line) = true) (h1 : noOwnBut x ρ = true) (h2 : look x ρ = some (.list .own vs)) (h3 : vs.length ≤ 2 ^ 20) (h : kn (setv x (.list .own vs.reverse) ρ)) :
      ExS S R u N on es ex ρ kn kr (.Expr (.Call (.Attribute (.Name x px) (Str.ofString "reverse") ap) [] [] cp) p)
noncomputable def exE (S : Nat → Sig) (R : Nat) (u : Bool) (N : Nat) (on : Str) (es : Scope) (n : Nat) : ExT :=
  Nat.rec (fun _ _ _ _ => False) (fun _ ex ρ st kn kr => ExS S R u N on es ex ρ kn kr st) n

noncomputable def ExOk (W : Wd) (S : Nat → Sig) (R N : Nat) (u : Bool) (on : Str) (es : Scope) (n : Nat) : Prop :=
  ∀ (ρ : Loc) (st : Stmt) (kn : Loc → Prop) (kr : AV → Prop) (A : Around) (env : Env) (own : Option Addr) (s₀ s : Shared) (Q : Flow → Shared → Prop) (E : Value → Shared → Prop), Room A R → EnvOk env →
    (∀ x k, kindIn es.names x k = true → env.kindOf x = some k) → FS W S u env own ρ s₀ s → exE S R u N on es n ρ st kn kr →
    (∀ s' own' ρ', FS W S u env own' ρ' s₀ s' → kn ρ' → Q .next s') →
    (∀ v s' own' ρ' a, FS W S u env own' ρ' s₀ s' → RRep (Fk W S) own' s₀.heap s'.heap v a → kr a → Q (.ret v) s') → wpAny (model W.prog W.w) A (exec st env) Q E s

section
variable {W : Wd} {S : Nat → Sig} {R N : Nat} {u : Bool} {on : Str} {es : Scope} {n : Nat}
theorem exs_sound (ih : ExOk W S R N u on es n) {A : Around} {env : Env} {s₀ : Shared} {kn : Loc → Prop} {kr : AV → Prop} {Q : Flow → Shared → Prop} {E : Value → Shared → Prop} (hR : Room A R) (K : EnvOk env)
    (hes : ∀ x k, kindIn es.names x k = true → env.kindOf x = some k) (hr : ∀ v s' own' ρ' a, FS W S u env own' ρ' s₀ s' → RRep (Fk W S) own' s₀.heap s'.heap v a → kr a → Q (.ret v) s') :
    ∀ (sts : List Stmt) (ρ : Loc) (own : Option Addr) (s : Shared) (Q' : Flow → Shared → Prop), FS W S u env own ρ s₀ s → exs (exE S R u N on es n) sts ρ kn kr → (∀ s' own' ρ', FS W S u env own' ρ' s₀ s' → kn ρ' → Q' .next s') →
      (∀ v s', Q (.ret v) s' → Q' (.ret v) s') → wpAny (model W.prog W.w) A (execs sts env) Q' E s
  | [], ρ, own, s, Q', F, h, hn, _ => wpAny_execs_nil (hn _ _ _ F h)
  | st :: rest, ρ, own, s, Q', F, h, hn, hq => by
    refine wpAny_execs_cons (ih ρ st _ kr A env own s₀ s _ E hR K hes F h (fun s' own' ρ' F' hk => ?_) fun v s' own' ρ' a F' ra ka => ?_)
    · exact exs_sound ih hR K hes hr rest ρ' own' s' Q' F' hk hn hq
    · exact hq _ _ (hr v s' own' ρ' a F' ra ka)

theorem nms_assign {env : Env} : ∀ {ts : List Expr} {xs : List Str}, nms ts = some xs → (assignEach ts env).length = xs.length ∧ (assignEach ts env).findIdx? (·.1) = none
  | [], xs, h => by cases h; exact ⟨rfl, rfl⟩
  | t :: r, xs, h => by
    obtain ⟨x, p, ys, rfl, hy, rfl⟩ := nms_cons h
    obtain ⟨h1, h2⟩ := nms_assign (env := env) hy
    refine ⟨?_, ?_⟩
    · show (assignEach r env).length + 1 = _
      rw [h1]; rfl
    · show List.findIdx? (·.1) ((false, _) :: assignEach r env) = none
      rw [List.findIdx?_cons]
      simp [h2]

/-- several stores, in whatever words -/
inductive Sto (W : Wd) (A : Around) (env : Env) : List (Value → Sem Unit) → List Str → Prop
  | nil : Sto W A env [] []
  | cons {f x fs xs} : (∀ (v : Value) (Q : Unit → Shared → Prop) (E : Value → Shared → Prop) (s : Shared), wpAny (model W.prog W.w) A (storeName env x v) Q E s → wpAny (model W.prog W.w) A (f v) Q E s) → Sto W A env fs xs → Sto W A env (f :: fs) (x :: xs)
theorem Sto.each {A : Around} {env : Env} : ∀ {ts : List Expr} {xs : List Str}, nms ts = some xs → Sto W A env ((assignEach ts env).map (·.2)) xs
  | [], xs, h => by cases h; exact .nil
  | t :: r, xs, h => by
    obtain ⟨x, p, ys, rfl, hy, rfl⟩ := nms_cons h
    exact .cons (fun v Q E s q => PyProof.Rows.assign_Name q) (Sto.each hy)
theorem Sto.names {A : Around} {env : Env} : ∀ xs : List Str, Sto W A env (xs.map fun n => bindName env n) xs
  | [] => .nil
  | _ :: r => .cons (fun v Q E s q => bindName_ q) (Sto.names r)

theorem FS.stores {A : Around} {env : Env} {own : Option Addr} {s₀ : Shared} {E : Value → Shared → Prop} (K : EnvOk env) (hes : ∀ x k, kindIn es.names x k = true → env.kindOf x = some k) :
    ∀ {fs : List (Value → Sem Unit)} {xs : List Str} {as : List AV} {vs : List Value} {ρ : Loc} {s : Shared}, Sto W A env fs xs → FS W S u env own ρ s₀ s → VReps (Fk W S) own s.heap vs as → as.length = xs.length → allNm es xs = true → ∀ {Q : Unit → Shared → Prop},
      (∀ s', FS W S u env own (setMany xs as ρ) s₀ s' → Q () s') → wpAny (model W.prog W.w) A (assignInOrder fs vs) Q E s := by
  intro fs xs as vs ρ s x
  induction x generalizing as vs ρ s with
  | nil =>
    intro F v hl hn Q hQ
    cases v with
    | nil => exact assignInOrder_nil (hQ s F)
    | cons => cases hl
  | cons hf ht ih =>
    intro F v hl hn Q hQ
    cases v with
    | nil => cases hl
    | cons hv hr =>
      simp only [allNm, Bool.and_eq_true] at hn
      obtain ⟨hk, hd⟩ := nmOk_kind hn.1 hes
      exact assignInOrder_cons (hf _ _ _ _ (F.store K hk hd hv fun s' F' kp => ih F' (hr.imp kp) (Nat.succ.inj hl) hn.2 hQ))

theorem filterMap_all {f : Expr → Option Str} (hf : ∀ x p y, f (.Name x p) = some y → y = x) : ∀ {ts : List Expr} {xs : List Str}, nms ts = some xs → (ts.filterMap f).length = ts.length → ts.filterMap f = xs
  | [], xs, h, _ => by cases h; rfl
  | t :: r, xs, h, hl => by
    obtain ⟨x, p, ys, rfl, hy, rfl⟩ := nms_cons h
    cases hq : f (.Name x p) with
    | none =>
      rw [List.filterMap_cons_none hq] at hl
      have := List.length_filterMap_le f r
      simp only [List.length_cons] at hl
      omega
    | some y =>
      rw [List.filterMap_cons_some hq] at hl ⊢
      rw [hf _ _ _ hq, filterMap_all hf hy (by simpa using hl)]
theorem swapped_or {ts el : List Expr} {xs : List Str} {k k' : Nat} {p p' : Pos} {env : Env} (hx : nms ts = some xs) (ha : alone el = false) :
    swappedStores [.Tuple ts k p] (.Tuple el k' p') env = pure none ∨ swappedStores [.Tuple ts k p] (.Tuple el k' p') env = pure (some xs) := by
  unfold swappedStores
  dsimp only
  split
  · exact .inl rfl
  · split
    · exact .inl rfl
    · split
      · exact .inl rfl
      · rename_i hc
        split
        · exact .inl rfl
        · rw [if_neg (by rw [show List.all el (constantsAlone 8) = false from ha]; decide)]
          refine .inr ?_
          congr 2
          refine filterMap_all (fun x q y hy => ?_) hx ?_
          · dsimp only at hy
            split at hy
            · exact (Option.some.inj hy).symm
            · cases hy
          · simp only [Bool.or_eq_true, bne_iff_ne, ne_eq, not_or, Decidable.not_not] at hc
            exact hc.1
end
end
section
open PySem PySem.W PyProof.Rows PySem.Calls PyProof.V PySem.Spec PySem.SeqAt

set_option maxRecDepth 100000 in
theorem setItem_plain {prog : Program} {w : World} {A : Around} {E : Value → Shared → Prop} {s : Shared} {l : Addr} {items : List Value} {k : Int} {t : Tok} {v : Value} {Q : Unit → Shared → Prop} (hl : s.heap.PlainList l items.toArray)
    (h0 : 0 ≤ k) (hfit : k < 2 ^ 63) (hn : k < items.length)
    (hQ : ∀ h', h'.PlainList l (items.set k.toNat v).toArray → Heap.SameBut l s.heap h' → Q () { s with heap := h' }) :
    wpAny (model prog w) A (setItem (.ref l) (.int k t) v) Q E s := by
  obtain ⟨n, ho⟩ := hl
  have hi : s.heap.IsList l items.toArray := ⟨_, ho, rfl, n, rfl⟩
  unfold setItem
  with_reducible refine wpAny_holding ?_
  refine wpAny_bind (wpAny_sequenceKey hi.typeIs (by decide) ?_)
  refine wpAny_bind (wpAny_callSpecial?_slot (name := Str.ofString "__setitem__") hi.typeIs slot_list_setitem (wpAny_call_entry slot_list_setitem hi.typeIs entry_list_setitem ?_ (args_list_setitem _ _ _)))
  show wpAny _ _ (Builtin.List.listSubscript? (.int k t) >>= _) _ _ s
  refine wpAny_bind (wpAny_listSubscript_int (fitsIndex_of h0 hfit) ?_)
  clear hfit
  obtain ⟨j, rfl⟩ := Int.eq_ofNat_of_zero_le h0
  have hj : j < items.length := by omega
  have hx : items.toArray[j]? = some items[j] := by simp [hj]
  show wpAny _ _ ((seqItemAt l j >>= fun r => pure (r.map (j, ·))) >>= _) _ _ s
  refine wpAny_bind (wpAny_bind (wpAny_seqItemAt ho rfl (wpAny_pure ?_)))
  rw [hx]
  show wpAny _ _ (setSeqItemAt l j v >>= _) _ _ s
  refine wpAny_bind (wpAny_setSeqItemAt ho rfl ?_)
  have fin : (s.heap.update l (Obj.mapSeq (·.setIfInBounds j v))).PlainList l (items.set ((j : Nat) : Int).toNat v).toArray := by
    refine ⟨n, (Heap.get?_update_self _ ho rfl).trans ?_⟩
    simp [Obj.mapSeq]
  first
    | exact wpAny_bind (wpAny_pure (wpAny_pure ⟨.none, rfl, wpAny_pure (hQ _ fin (Heap.SameBut.update ..))⟩))
    | exact wpAny_pure ⟨.none, rfl, wpAny_pure (hQ _ fin (Heap.SameBut.update ..))⟩

theorem swaps_plain {e : Expr} {t : Option Expr} {n : Nat} {env : Env} (h : isComp e = false) : swapsWith e t n env = pure false := by
  cases e <;> first | rfl | cases h
theorem swapped_plain {ts : List Expr} {e : Expr} {k : Nat} {p : Pos} {env : Env} (h : isTupE e = false) : swappedStores [.Tuple ts k p] e env = pure none := by
  cases e <;> first | rfl | cases h

section
variable {A : Around} {E : Value → Shared → Prop} {W : Wd} {S : Nat → Sig} {u : Bool} {env : Env} {own : Option Addr} {ρ : Loc} {s₀ s : Shared} {R N n : Nat} {on : Str} {es : Scope}

theorem LRep.mutOther {h h' : Heap} {l b : Addr} {vs : List SV} (x : LRep h l vs) (hne : l ≠ b) (e : Heap.ExtBut b h h') : LRep h' l vs := x.at1 fun o ho => e _ _ hne ho

/-- a store into the frame's own list -/
theorem FS.putOwn (F : FS W S u env own ρ s₀ s) {x : Str} {l : Addr} {v : Value} {vs ws : List SV} {h' : Heap} {tk : Nat} (ho : own = some l) (hv : Rd W env s.heap x v) (hvl : v = .ref l) (hold : LRep s.heap l vs) (hb : noOwnBut x ρ = true)
    (hnew : LRep h' l ws) (e : Heap.ExtBut l s.heap h') : FS W S u env own (setv x (.list .own ws) ρ) s₀ { s with heap := h', toks := tk } := by
  obtain ⟨oL, it, k, hoL, hcL, hdL⟩ := hold.obj
  have hMut : Mut oL := fun fs hfs => by rw [hdL] at hfs; cases hfs
  have ln := F.on _ ho
  have gw' := F.rs.gw.mut (F.gnone ln) hoL hMut e
  have nsK : ∀ L m, s.heap.Ns L m → h'.Ns L m := fun L m hm => by
    refine hm.at' fun o ho => e _ _ (fun q => ?_) ho
    subst q
    obtain ⟨o', es, ep, h1, h2, _⟩ := hm
    rw [hoL] at h1; cases h1; rw [hdL] at h2; cases h2
  have cellK : ∀ d w, s.heap.IsCell d w → h'.IsCell d w := fun d w hd => by
    obtain ⟨o, h1, h2⟩ := hd
    exact ⟨o, e _ _ (by rintro rfl; rw [hoL] at h1; cases h1; rw [hdL] at h2; cases h2) h1, h2⟩
  have rdK : ∀ y w, Rd W env s.heap y w → Rd W env h' y w := fun y w r => r.step (fun m hm => nsK _ _ hm) cellK
  refine ⟨⟨gw', fun y b hy => ?_, fun l' hl' => ?_⟩, F.gk, F.ex.mutFresh ln hoL hMut e, let ⟨m, h⟩ := F.loc; ⟨m, nsK _ _ h⟩, F.ln, fun y hy => let ⟨c, w, h1, h2, h3⟩ := F.cell y hy; ⟨c, w, h1, cellK _ _ h2, h3⟩, F.apart, F.on⟩
  · rw [look_setv] at hy
    by_cases hyx : y = x
    · rw [if_pos hyx, Option.some.injEq] at hy
      subst hyx; subst hy
      exact ⟨v, rdK _ _ hv, l, hvl, ho, hnew⟩
    · rw [if_neg hyx] at hy
      obtain ⟨w, rd, vr⟩ := F.rs.var y b hy
      refine ⟨w, rdK _ _ rd, ?_⟩
      cases b with
      | list t zs => cases t with
        | tmp => exact vr
        | own => exact absurd hy (noOwnBut_look hb hyx)
        | shr =>
          obtain ⟨l₁, rfl, q, z⟩ := vr
          exact ⟨l₁, rfl, q, z.mutOther (by rintro rfl; exact q ho) e⟩
      | _ => exact vr
  · rw [ho] at hl'; cases hl'
    obtain ⟨o, it, n, h1, h2, h3⟩ := hnew.obj
    exact ⟨o, it, n, h1, h2, h3⟩

theorem FS.ownAt (F : FS W S u env own ρ s₀ s) {x : Str} {vs : List SV} (hx : look x ρ = some (.list .own vs)) : ∃ l, own = some l ∧ Rd W env s.heap x (.ref l) ∧ LRep s.heap l vs := by
  obtain ⟨v, rd, l, rfl, h1, h2⟩ := F.rs.var _ _ hx
  exact ⟨l, h1, rd, h2⟩

/-- a comprehension's list stored -/
theorem FS.comped (F : FS W S u env own ρ s₀ s) (K : EnvOk env) {x : Str} {l I : Addr} {oI : Obj} {ws : List SV} {m : Str → Option Value} {h' : Heap} {tk : Nat} (hk : env.kindOf x = some .local) (hd : (x == ("__debug__" : Str)) = false)
    (hI : s₀.heap.get? I = none) (hoI : s.heap.get? I = some oI) (hi : IterObj oI) (hm : s.heap.Ns env.locals m) (hn : h'.Ns env.locals fun z => if z = x then some (.ref l) else m z)
    (hl : s.heap.get? l = none) (hnew : LRep h' l ws) (e : ∀ b o, b ≠ env.locals → b ≠ I → s.heap.get? b = some o → h'.get? b = some o) : FS W S u env own (setv x (.list .shr ws) ρ) s₀ { s with heap := h', toks := tk } := by
  have hm0 := hm
  obtain ⟨oL, es', ep, hoL, hdL, hsk, hfind⟩ := hm0
  obtain ⟨hMI, vsI, hdI⟩ := hi
  have hML : Mut oL := fun vs hvs => by rw [hdL] at hvs; cases hvs
  have listK : ∀ {l vs}, LRep s.heap l vs → LRep h' l vs := fun {l vs} q => q.at1 fun o ho => e _ _ (by
      rintro rfl
      obtain ⟨o2, it, n, h2, _, h3⟩ := q.obj
      rw [hoL] at h2; cases h2; rw [hdL] at h3; cases h3) (by
      rintro rfl
      obtain ⟨o2, it, n, h2, _, h3⟩ := q.obj
      rw [hoI] at h2; cases h2; rw [hdI] at h3; cases h3) ho
  have cellK : ∀ d w, s.heap.IsCell d w → h'.IsCell d w := fun d w hd => by
    obtain ⟨o, h1, h2⟩ := hd
    exact ⟨o, e _ _ (by rintro rfl; rw [hoL] at h1; cases h1; rw [hdL] at h2; cases h2) (by rintro rfl; rw [hoI] at h1; cases h1; rw [hdI] at h2; cases h2) h1, h2⟩
  have ne : ∀ b o, s₀.heap.get? b = some o → b ≠ env.locals ∧ b ≠ I := fun b o hb => ⟨(by rintro rfl; rw [F.ln] at hb; cases hb), (by rintro rfl; rw [hI] at hb; cases hb)⟩
  have tok' : W.TOk h' := W.tom2 _ _ F.rs.gw.tok fun b o hb hnm => e b o (by rintro rfl; rw [hoL] at hb; cases hb; exact hnm hML) (by rintro rfl; rw [hoI] at hb; cases hb; exact hnm hMI) hb
  refine ⟨⟨⟨fun b o hb => e b o (ne b o (F.gk b o hb)).1 (ne b o (F.gk b o hb)).2 (F.rs.gw.keep b o hb), tok'⟩, fun y b hy => ?_, fun l' hl' => ?_⟩, F.gk, ?_, ⟨_, hn⟩, F.ln, fun y hy => let ⟨c, w, h1, h2, h3⟩ := F.cell y hy; ⟨c, w, h1, cellK _ _ h2, h3⟩, F.apart, F.on⟩
  · rw [look_setv] at hy
    by_cases hyx : y = x
    · rw [if_pos hyx, Option.some.injEq] at hy
      subst hyx; subst hy
      refine ⟨.ref l, ⟨hd, .inl ⟨hk, _, hn, by simp⟩⟩, l, rfl, fun q => ?_, hnew⟩
      obtain ⟨o, _, _, ho, _⟩ := F.rs.ow l q
      rw [hl] at ho; cases ho
    · rw [if_neg hyx] at hy
      obtain ⟨w, rd, vr⟩ := F.rs.var y b hy
      refine ⟨w, ⟨rd.1, ?_⟩, ?_⟩
      · rcases rd.2 with ⟨k, m2, hn2, hv2⟩ | ⟨k, c, hc, hv2⟩ | ⟨k, hcd, c, hc, hv2⟩ | ⟨k, hv2⟩ | ⟨k, hv2, hn2, hb⟩
        · refine .inl ⟨k, _, hn, ?_⟩
          simp only [if_neg hyx]
          rw [hm.agree hn2]; exact hv2
        · exact .inr (.inl ⟨k, c, hc, cellK _ _ hv2⟩)
        · exact .inr (.inr (.inl ⟨k, hcd, c, hc, cellK _ _ hv2⟩))
        · exact .inr (.inr (.inr (.inl ⟨k, hv2⟩)))
        · exact .inr (.inr (.inr (.inr ⟨k, hv2, hn2, hb⟩)))
      · cases b with
        | list t zs => cases t with
          | tmp => exact vr
          | own => obtain ⟨l₁, h1, q, z⟩ := vr; exact ⟨l₁, h1, q, listK z⟩
          | shr => obtain ⟨l₁, h1, q, z⟩ := vr; exact ⟨l₁, h1, q, listK z⟩
        | _ => exact vr
  · obtain ⟨o, it, n, h1, h2, h3⟩ := F.rs.ow l' hl'
    exact ⟨o, it, n, e _ _ (by rintro rfl; rw [hoL] at h1; cases h1; rw [hdL] at h3; cases h3) (by rintro rfl; rw [hoI] at h1; cases h1; rw [hdI] at h3; cases h3) h1, h2, h3⟩
  · have ex := F.ex
    cases u with
    | false =>
      have x' : Keeps s₀ s := by simpa [Ex] using ex
      obtain ⟨h, t, rfl, k⟩ := x'
      simp only [Ex, Bool.false_eq_true, if_false]
      exact ⟨h', tk, rfl, fun b ob hb => e b ob (ne b ob hb).1 (ne b ob hb).2 (k b ob hb)⟩
    | true =>
      have x' : ExtU W s₀ s := by simpa [Ex] using ex
      simp only [Ex, if_true]
      exact ⟨fun b ob hb hq => e b ob (ne b ob hq).1 (ne b ob hq).2 (x'.keep b ob hb hq), fun _ => tok', x'.os, x'.gens, x'.bare⟩
end
end
section
open PySem PySem.W PyProof.Rows PySem.Calls PyProof.V PySem.Spec PySem.SeqAt

theorem swaps_comp {es sc : Scope} {elt : Expr} {gens : List Comprehension} {cp px : Pos} {x : Str} {n : Nat} {env : Env} (K : EnvOk env) (hes : ∀ x k, kindIn es.names x k = true → env.kindOf x = some k) (h : swB es sc x px.line cp.line = true) :
    swapsWith (.ListComp elt gens sc cp) (some (.Name x px)) n env = pure true := by
  simp only [swB, Bool.and_eq_true] at h
  have hk := hes _ _ h.1.1
  show (pure (env.blockKind == .function && env.kindOf x == some .local && px.line == cp.line && !(sc.names.any fun y => y.1 == x && (y.2 == .local || y.2 == .cell))) : Sem Bool) = pure true
  congr 1
  simp only [Bool.and_eq_true]
  refine ⟨⟨⟨?_, ?_⟩, h.1.2⟩, h.2⟩
  · unfold Env.blockKind; rw [K.kind]; rfl
  · rw [hk]; rfl

section
variable {W : Wd} {S : Nat → Sig} {R N : Nat} {u : Bool} {on : Str} {es : Scope} {n : Nat} {A : Around} {env : Env} {own : Option Addr} {s₀ s : Shared} {ρ : Loc} {E : Value → Shared → Prop} {Q : Flow → Shared → Prop} {kn : Loc → Prop} {kr : AV → Prop}

theorem TOk.notTb {h : Heap} (t : W.TOk h) {b : Addr} {o : Obj} (ho : h.get? b = some o) (hc : o.cls ≠ .none) : ¬ W.tb b := fun hb => by
  obtain ⟨ps, hp⟩ := W.tin _ t b hb
  rw [hp] at ho; cases ho; exact hc rfl

theorem st_assign (hR : Room A R) (K : EnvOk env) (hes : ∀ x k, kindIn es.names x k = true → env.kindOf x = some k) (F : FS W S u env own ρ s₀ s) {x : Str} {px p : Pos} {e : Expr} (hx : nmOk es x = true) (hc : isComp e = false)
    (h : evE S R N u es ρ e fun a => stOne on x ρ a fun a' => kn (setv x a' ρ)) (hn : ∀ s' own' ρ', FS W S u env own' ρ' s₀ s' → kn ρ' → Q .next s') : wpAny (model W.prog W.w) A (exec (.Assign [.Name x px] e p) env) Q E s := by
  obtain ⟨hk, hd⟩ := nmOk_kind hx hes
  refine wpAny_Assign_Name ((ev_all W S R N).1 u es ρ e _ A env own s _ _ hR K hes F.rs h fun v s' a hx' ra ka => ?_) (swaps_plain hc)
  obtain ⟨own', a', F', vr, hk'⟩ := F.stOne hx' ra ka
  exact F'.store K hk hd vr fun s'' F'' _ => hn _ _ _ F'' hk'

theorem st_comp (hR : Room A R) (K : EnvOk env) (hes : ∀ x k, kindIn es.names x k = true → env.kindOf x = some k) (F : FS W S u env own ρ s₀ s) {x t : Str} {px p pt cp : Pos} {elt iter : Expr} {sc : Scope}
    (hs : ∀ y env, foldedSetIterable iter env y = pure y) (hok : compOk es sc t = true) (hx : nmOk es x = true) (hsw : swB es sc x px.line cp.line = true) (hon : x ≠ on) {g : SV → SV}
    (h : evE S R N u es ρ iter fun it => ∃ vs, iterV it = some vs ∧ vs.length ≤ 2 ^ 20 ∧
          (∀ v ∈ vs, evE S R N false noScope ((t, .sc v) :: cρ es sc ρ) elt fun a => a = .sc (g v)) ∧ kn (setv x (.list .shr (vs.map g)) ρ))
    (hn : ∀ s' own' ρ', FS W S u env own' ρ' s₀ s' → kn ρ' → Q .next s') : wpAny (model W.prog W.w) A (exec (.Assign [.Name x px] (.ListComp elt [⟨.Name t pt, iter, [], 0⟩] sc cp) p) env) Q E s := by
  obtain ⟨_, hd⟩ := nmOk_kind hx hes
  have hk : env.kindOf x = some .local := by
    simp only [swB, Bool.and_eq_true] at hsw
    exact hes _ _ hsw.1.1
  have hok' := hok
  simp only [compOk, Bool.and_eq_true, List.all_eq_true] at hok'
  obtain ⟨⟨⟨⟨⟨h1, h2⟩, h3⟩, h4⟩, h5⟩, h6⟩ := hok'
  obtain ⟨cl, hcl, hcl'⟩ := closure_ok (env := env) (sc := sc) fun y hy hf => by
    have := h5 y hy
    rw [hf] at this
    exact K.cel _ (hes _ _ (by simpa using this))
  refine wpAny_Assign_ListComp_free (fun _ => true) (fun v y => ∃ a, SRep v a ∧ SRep y (g a)) (swaps_comp K hes hsw) hcl (fun y hy => by simpa using h1 y hy) (beq_iff_eq.mp h2) (fun y hy hl => ?_) (kindIn_iff.mp h4) hk (by rw [K.kind]; rfl)
    (comp_core (k := fun a => match a with | .list .tmp ws => kn (setv x (.list .shr ws) ρ) | _ => False) (ev_all W S R N).1 hR K hes F.rs hok hcl' h fun it s₂ hc => ?_) (fun y => hs y env)
  · have := h3 y hy
    rw [hl] at this
    exact kindIn_iff.mp (by simpa using this)
  · obtain ⟨I, fp, vs, P, St, rfl, hw, hst, hfp, hq, hx', hnI, ⟨o, ho, hi⟩, hlen, hP, hkk, r₂⟩ := hc
    have F₂ := F.ext hx'
    obtain ⟨m, hm⟩ := F₂.loc
    have hI0 : s₀.heap.get? I = none := F.ex.ext.nback F.rs.gw.tok hnI
    have hLI : env.locals ≠ I := by
      rintro rfl
      obtain ⟨_, vs', hd'⟩ := hi
      obtain ⟨o', es', ep, e1, e2, _⟩ := hm
      rw [ho] at e1; cases e1; rw [hd'] at e2; cases e2
    refine ⟨I, fp, [I], vs.length, P, St, m, rfl, hw, Nat.le_trans hlen (by simp [sizeLine]), hst, hfp, by simpa using hLI, hm, hq, fun D h' tk ys vals hD _ hp hl hv hF hNs hkeep => ?_⟩
    exact hn _ own _ (F₂.comped K (ws := vs.map g) hk hd hI0 ho hi hm hNs hD (comp_list hP hp hl hv hF) fun b o hbL hbI e => hkeep b o hbL (by simpa using hbI) e) hkk

theorem tup_obj {h : Heap} {l : Addr} {items : List Value} (x : h.get? l = some { cls := .type "tuple", data := .seq items.toArray }) : IsTup h l items.toArray := ⟨_, x, rfl, _, rfl⟩
theorem VReps.length {F : Nat → Value → Prop} {own : Option Addr} {h : Heap} {vs as} (x : VReps F own h vs as) : vs.length = as.length := by
  induction x with
  | nil => rfl
  | cons _ _ ih => simp [ih]
theorem VReps.append {F : Nat → Value → Prop} {own : Option Addr} {h : Heap} {vs as ws bs} (x : VReps F own h vs as) (y : VReps F own h ws bs) : VReps F own h (vs ++ ws) (as ++ bs) := by
  induction x with
  | nil => exact y
  | cons a _ ih => exact .cons a ih
theorem VReps.reverse {F : Nat → Value → Prop} {own : Option Addr} {h : Heap} {vs as} (x : VReps F own h vs as) : VReps F own h vs.reverse as.reverse := by
  induction x with
  | nil => exact .nil
  | cons a _ ih => simp only [List.reverse_cons]; exact ih.append (.cons a .nil)
theorem memN_iff {x : Str} : ∀ {l : List Str}, memN x l = true ↔ x ∈ l
  | [] => by simp [memN]
  | y :: r => by
    unfold memN
    split
    · rename_i h; simp [h]
    · rename_i h; rw [memN_iff]; simp [h]
theorem distinct_nodup : ∀ {xs : List Str}, distinctN xs = true → xs.Nodup
  | [], _ => List.nodup_nil
  | x :: r, h => by
    simp only [distinctN, Bool.and_eq_true] at h
    refine List.nodup_cons.mpr ⟨fun q => ?_, distinct_nodup h.2⟩
    rw [memN_iff.mpr q] at h
    simp at h
theorem allNm_reverse {es : Scope} : ∀ {xs : List Str}, allNm es xs = true ↔ ∀ x ∈ xs, nmOk es x = true
  | [] => by simp [allNm]
  | x :: r => by simp [allNm, allNm_reverse]

theorem st_tup (hR : Room A R) (K : EnvOk env) (hes : ∀ x k, kindIn es.names x k = true → env.kindOf x = some k) (F : FS W S u env own ρ s₀ s) {ts el : List Expr} {xs : List Str} {k k' : Nat} {tp p p' : Pos}
    (hx : nms ts = some xs) (hnm : allNm es xs = true) (hdist : distinctN xs = true) (hst : noStar el = true) (hal : alone el = false) (hlen : el.length = ts.length)
    (h : evs (evE S R N u es ρ) el fun as => as.length ≤ 2 ^ 20 ∧ stMany on ρ xs as fun bs => kn (setMany xs bs ρ)) (hn : ∀ s' own' ρ', FS W S u env own' ρ' s₀ s' → kn ρ' → Q .next s') :
    wpAny (model W.prog W.w) A (exec (.Assign [.Tuple ts k tp] (.Tuple el k' p') p) env) Q E s := by
  have key : ∀ vs s' as, Ex W u s s' → RReps (Fk W S) own s.heap s'.heap vs as → (as.length ≤ 2 ^ 20 ∧ stMany on ρ xs as fun bs => kn (setMany xs bs ρ)) →
      vs.length ≤ sizeLine ∧ ∃ own' bs, VReps (Fk W S) own' ({ s' with heap := s'.heap.push { cls := .type "tuple", data := .seq vs.toArray } } : Shared).heap vs bs ∧ FS W S u env own' ρ s₀ { s' with heap := s'.heap.push { cls := .type "tuple", data := .seq vs.toArray } } ∧ kn (setMany xs bs ρ) ∧ bs.length = xs.length := by
    intro vs s' as hx' rs ha
    have hpush : Ex W u s' { s' with heap := s'.heap.push { cls := .type "tuple", data := .seq vs.toArray } } := .push (tk := s'.toks)
    have F' := F.ext hx'
    obtain ⟨own', bs, F'', vr, hk, hl⟩ := F.stMany (hx'.trans hpush) (rs.ext F'.rs.gw.tok hpush.ext) ha.2
    refine ⟨?_, own', bs, vr, F'', hk, hl⟩
    have : vs.length = as.length := by
      have : ∀ {vs as}, RReps (Fk W S) own s.heap s'.heap vs as → vs.length = as.length := by
        intro vs as q
        induction q with
        | nil => rfl
        | cons _ _ ih => simp [ih]
      exact this rs
    rw [this]
    exact Nat.le_trans ha.1 (by simp [sizeLine])
  rcases swapped_or (k := k) (k' := k') (p := tp) (p' := p') (env := env) (el := el) hx hal with hw | hw
  · refine Assign_Tuple (wpAny_Tuple (evs_sound (ev_all W S R N).1 hR K hes el _ s _ F.rs hst h fun vs s' as hx' rs ha => ?_)) (by rfl) hw
    obtain ⟨hsz, own', bs, vr, F', hk, hl⟩ := key vs s' as hx' rs ha
    refine ⟨hsz, ?_⟩
    obtain ⟨hn1, hn2⟩ := nms_assign (env := env) hx
    refine assign_Tuple_tuple hR.hd (tup_obj (Heap.get?_push_size _ rfl)) (by rw [hn1, List.size_toArray, vr.length, hl]) hn2 fun h' he => ?_
    have e2 : Ex W u { s' with heap := s'.heap.push { cls := .type "tuple", data := .seq vs.toArray } } ({ s' with heap := h' } : Shared) := .heap (tk := s'.toks) fun b o hb => he b o (Nat.ne_of_lt (lt_of_some hb)) hb
    have F'' := F'.ext e2
    exact FS.stores K hes (Sto.each hx) F'' (vr.imp fun v a q => q.ext F'.rs.gw.tok e2.ext) hl hnm fun s'' F3 => hn _ _ _ F3 hk
  · refine Assign_Tuple_swapped (wpAny_Tuple (evs_sound (ev_all W S R N).1 hR K hes el _ s _ F.rs hst h fun vs s' as hx' rs ha => ?_)) (by rfl) hw
    obtain ⟨hsz, own', bs, vr, F', hk, hl⟩ := key vs s' as hx' rs ha
    refine ⟨hsz, ?_⟩
    have hl' : xs.length = vs.toArray.size := by rw [List.size_toArray, vr.length, hl]
    rw [hl']
    refine unpackItems_tuple hR.hd (tup_obj (Heap.get?_push_size _ rfl)) fun h' he => ?_
    have e2 : Ex W u { s' with heap := s'.heap.push { cls := .type "tuple", data := .seq vs.toArray } } ({ s' with heap := h' } : Shared) := .heap (tk := s'.toks) fun b o hb => he b o (Nat.ne_of_lt (lt_of_some hb)) hb
    have F'' := F'.ext e2
    refine FS.stores K hes (Sto.names xs.reverse) F'' (vr.imp fun v a q => q.ext F'.rs.gw.tok e2.ext).reverse (by simp [hl]) (allNm_reverse.mpr fun x hx => allNm_reverse.mp hnm x (List.mem_reverse.mp hx)) fun s'' F3 => ?_
    exact hn _ _ _ (F3.sub fun x a hxa => by rw [look_setMany_reverse _ _ _ _ (distinct_nodup hdist) hl]; exact hxa) hk

theorem sc_vreps {F : Nat → Value → Prop} {h : Heap} : ∀ {vs : List Value} {as : List SV}, Reps vs as → VReps F own h vs (as.map .sc)
  | _, _, .nil => .nil
  | _, _, .cons hv hr => .cons (a := .sc _) hv (sc_vreps hr)
theorem st_untup (hR : Room A R) (K : EnvOk env) (hes : ∀ x k, kindIn es.names x k = true → env.kindOf x = some k) (F : FS W S u env own ρ s₀ s) {ts : List Expr} {e : Expr} {xs : List Str} {k : Nat} {tp p : Pos}
    (hx : nms ts = some xs) (hnm : allNm es xs = true) (ht : isTupE e = false) (hc : isComp e = false)
    (h : evE S R N u es ρ e fun a => tupK a fun vs => vs.length = xs.length ∧ kn (setMany xs (vs.map .sc) ρ)) (hn : ∀ s' own' ρ', FS W S u env own' ρ' s₀ s' → kn ρ' → Q .next s') :
    wpAny (model W.prog W.w) A (exec (.Assign [.Tuple ts k tp] e p) env) Q E s := by
  refine Assign_Tuple ((ev_all W S R N).1 u es ρ e _ A env own s _ _ hR K hes F.rs h fun v s' a hx' ra ka => ?_) (by unfold swapsWithSole; exact swaps_plain hc) (swapped_plain ht)
  cases ka with
  | tup ka =>
    obtain ⟨hl, hk⟩ := ka
    obtain ⟨l, rfl, it, hit, r⟩ := ra
    obtain ⟨hn1, hn2⟩ := nms_assign (env := env) hx
    refine assign_Tuple_tuple hR.hd hit (by rw [hn1, List.size_toArray, r.length, hl]) hn2 fun h' he => ?_
    have e2 : Ex W u s' ({ s' with heap := h' } : Shared) := .heap (tk := s'.toks) fun b o hb => he b o (Nat.ne_of_lt (lt_of_some hb)) hb
    exact FS.stores K hes (Sto.each hx) ((F.ext hx').ext e2) (sc_vreps r) (by simp [hl]) hnm fun s'' F3 => hn _ _ _ F3 hk

theorem reps_set {v : Value} {a : SV} (ra : SRep v a) {ws : List Value} {bs : List SV} (q : Reps ws bs) : ∀ k : Nat, Reps (ws.set k v) (bs.set k a) := by
  induction q with
  | nil => intro k; exact .nil
  | cons hv hr ih =>
    intro k
    cases k with
    | zero => exact .cons ra hr
    | succ k => exact .cons hv (ih k)
theorem st_put (hR : Room A R) (K : EnvOk env) (hes : ∀ x k, kindIn es.names x k = true → env.kindOf x = some k) (F : FS W S u env own ρ s₀ s) {x : Str} {i e : Expr} {px sp p : Pos}
    (hc : isComp e = false) (hno : noOwnBut x ρ = true)
    (h : evE S R N u es ρ e fun a => scK1 a fun v => ∃ vs, look x ρ = some (.list .own vs) ∧ evE S R N u es ρ i fun b => inK1 b fun j =>
          0 ≤ j ∧ j < vs.length ∧ vs.length ≤ 2 ^ 20 ∧ kn (setv x (.list .own (vs.set j.toNat v)) ρ)) (hn : ∀ s' own' ρ', FS W S u env own' ρ' s₀ s' → kn ρ' → Q .next s') :
    wpAny (model W.prog W.w) A (exec (.Assign [.Subscript (.Name x px) i sp] e p) env) Q E s := by
  refine wpAny_Assign_Subscript ((ev_all W S R N).1 u es ρ e _ A env own s _ _ hR K hes F.rs h fun v s' a hx' ra ka => ?_) (swaps_plain hc)
  cases ka with
  | sc ka =>
    rename_i a
    obtain ⟨vs, hl, ka⟩ := ka
    have F' := F.ext hx'
    obtain ⟨l, ho, rd, lr⟩ := F'.ownAt hl
    refine rd.name K F'.rs.gw ?_
    refine (ev_all W S R N).1 u es ρ i _ A env own s' _ _ hR K hes F'.rs ka fun w s'' b hx2 rb kb => ?_
    have F2 := F'.ext hx2
    obtain ⟨l2, ho2, rd2, lr2⟩ := F2.ownAt hl
    rw [ho] at ho2; cases ho2
    cases kb with
    | int kb =>
      rename_i j
      obtain ⟨h0, h1, h2, hk⟩ := kb
      obtain ⟨it, hp, r⟩ := lr2
      exact SRep.intC (P := fun w => wpAny _ _ (setItem _ w _) _ _ _) rb fun _ => setItem_plain hp h0 (by omega) (by rw [r.length]; exact h1) fun h' hp' hs => hn _ own _ (F2.putOwn (ws := vs.set j.toNat a) (tk := s''.toks) ho rd2 rfl ⟨_, hp, r⟩ hno ⟨_, hp', reps_set ra r _⟩ hs.extBut) hk

theorem aug_sound {op : Operator} {a b : AV} {k : AV → Prop} {va vb : Value} {h₀ h₁ : Heap} {F : Nat → Value → Prop} {Q : Value → Shared → Prop} (h : augE op a b k) (ra : RRep F own h₀ s.heap va a) (rb : RRep F own h₁ s.heap vb b)
    (G : GW W s.heap) (R : Room A 0) (hQ : ∀ v s' a, Keeps s s' → SRep v a → k (.sc a) → Q v s') : wpAny (model W.prog W.w) A (inplaceOp op va vb) Q E s := by
  cases h with
  | add h => exact SRep.int2 (P := fun a b => wpAny _ _ (inplaceOp _ a b) _ _ _) ra rb fun _ _ => iadd_int (hQ _ _ _ (tok_keeps _) (SRep.int _ _) h)
  | sub h => exact SRep.int2 (P := fun a b => wpAny _ _ (inplaceOp _ a b) _ _ _) ra rb fun _ _ => isub_int (hQ _ _ _ (tok_keeps _) (SRep.int _ _) h)
  | fd h0 h => exact SRep.int2 (P := fun a b => wpAny _ _ (inplaceOp _ a b) _ _ _) ra rb fun _ _ => ifloordiv_int h0 (hQ _ _ _ (tok_keeps _) (SRep.int _ _) h) (.inr (pylong G R))
  | shl h0 h1 h => exact SRep.int2 (P := fun a b => wpAny _ _ (inplaceOp _ a b) _ _ _) ra rb fun _ _ => ilshift_int h0 h1 (hQ _ _ _ (tok_keeps _) (SRep.int _ _) h)
  | shr h0 h => exact SRep.int2 (P := fun a b => wpAny _ _ (inplaceOp _ a b) _ _ _) ra rb fun _ _ => irshift_int h0 (hQ _ _ _ (tok_keeps _) (SRep.int _ _) h)
theorem st_aug (hR : Room A R) (K : EnvOk env) (hes : ∀ x k, kindIn es.names x k = true → env.kindOf x = some k) (F : FS W S u env own ρ s₀ s) {x : Str} {e : Expr} {op : Operator} {px p : Pos} {a : AV}
    (hx : nmOk es x = true) (hl : look x ρ = some a) (h : evE S R N u es ρ e fun b => augE op a b fun c => kn (setv x c ρ)) (hn : ∀ s' own' ρ', FS W S u env own' ρ' s₀ s' → kn ρ' → Q .next s') :
    wpAny (model W.prog W.w) A (exec (.AugAssign (.Name x px) op e p) env) Q E s := by
  obtain ⟨hk, hd⟩ := nmOk_kind hx hes
  obtain ⟨v, rd, vr⟩ := F.rs.var _ _ hl
  refine wpAny_AugAssign_Name (rd.load K F.rs.gw ?_ (by rcases hk with q | q <;> rw [q] <;> decide))
  refine (ev_all W S R N).1 u es ρ e _ A env own s _ _ hR K hes F.rs h fun w s' b hx' rb kb => ?_
  have F' := F.ext hx'
  refine aug_sound kb ((vr.res (h₀ := s.heap)).ext F.rs.gw.tok hx'.ext) rb F'.rs.gw (hR.le (Nat.zero_le _)) fun z s'' c hk' hc kc => ?_
  exact (F'.ext (.of_keeps hk')).store K hk hd (a := .sc c) hc fun s3 F3 _ => hn _ _ _ F3 kc
end
end
section
open PySem PySem.W PyProof.Rows PySem.Calls PyProof.V PySem.Spec PySem.SeqAt

section
variable {W : Wd} {S : Nat → Sig} {R N : Nat} {u : Bool} {on : Str} {es : Scope} {n : Nat} {A : Around} {env : Env} {own : Option Addr} {s₀ s : Shared} {ρ : Loc} {E : Value → Shared → Prop} {Q : Flow → Shared → Prop} {kn : Loc → Prop} {kr : AV → Prop}

theorem not_inter (K : EnvOk env) : interactive env = false := by unfold interactive; rw [K.kind]; rfl

theorem st_append (hR : Room A R) (K : EnvOk env) (hes : ∀ x k, kindIn es.names x k = true → env.kindOf x = some k) (F : FS W S u env own ρ s₀ s) {x : Str} {e : Expr} {px ap cp p : Pos} {vs : List SV}
    (hline : (ap.endLine == cp.line) = true) (hst : noStar [e] = true) (hno : noOwnBut x ρ = true) (hl : look x ρ = some (.list .own vs))
    (h : evE S R N u es ρ e fun a => scK1 a fun v => vs.length ≤ 2 ^ 20 ∧ kn (setv x (.list .own (vs ++ [v])) ρ)) (hn : ∀ s' own' ρ', FS W S u env own' ρ' s₀ s' → kn ρ' → Q .next s') :
    wpAny (model W.prog W.w) A (exec (.Expr (.Call (.Attribute (.Name x px) (Str.ofString "append") ap) [e] [] cp) p) env) Q E s := by
  refine wpAny_Expr ?_ (not_inter K) (by rfl)
  refine wpAny_Call_method_lateS (attr_plain (fun _ _ _ q => nomatch q)) ?_ hline ?_
  · have := star_all (env := env) (pos := cp) hst
    simp [this, backToKw, show keywordEach [] env = [] from rfl]
  obtain ⟨l, ho, rd, lr⟩ := F.ownAt hl
  refine rd.name K F.rs.gw ?_
  obtain ⟨it, ⟨k, hp⟩, r⟩ := lr
  refine ⟨"list", _, PySem.F.plainAttrs_list, PySem.F.slot_list_append, PySem.F.type_list_append, ⟨_, hp, rfl⟩, (fun a q => by cases q; exact ⟨_, hp, rfl⟩), ?_⟩
  rw [star_plain (noStar_head hst).1]
  refine P.append_list ((ev_all W S R N).1 u es ρ e _ A env own s _ _ hR K hes F.rs h fun v s' a hx' ra ka => ?_)
  cases ka with
  | sc ka =>
    rename_i a
    have F' := F.ext hx'
    obtain ⟨l2, ho2, rd2, lr2⟩ := F'.ownAt hl
    rw [ho] at ho2; cases ho2
    have lr2' := lr2
    obtain ⟨it', ⟨k', hp'⟩, r'⟩ := lr2'
    refine ⟨it'.toArray, k', by rw [List.size_toArray, r'.length]; exact Nat.le_trans ka.1 (by simp [sizeLine]), hp', ?_⟩
    refine hn _ own _ (F'.putOwn (ws := vs ++ [a]) (tk := s'.toks) ho rd2 rfl lr2 hno ⟨it' ++ [v], ⟨k' + 1, (Heap.get?_update_self _ hp' rfl).trans ?_⟩, r'.append (.cons ra .nil)⟩ (Heap.SameBut.update ..).extBut) ka.2
    simp [Obj.mapSeq]

theorem st_reverse (K : EnvOk env) (F : FS W S u env own ρ s₀ s) {x : Str} {px ap cp p : Pos} {vs : List SV}
    (hline : (ap.endLine == cp.line) = true) (hno : noOwnBut x ρ = true) (hl : look x ρ = some (.list .own vs)) (hlen : vs.length ≤ 2 ^ 20) (hk : kn (setv x (.list .own vs.reverse) ρ))
    (hn : ∀ s' own' ρ', FS W S u env own' ρ' s₀ s' → kn ρ' → Q .next s') :
    wpAny (model W.prog W.w) A (exec (.Expr (.Call (.Attribute (.Name x px) (Str.ofString "reverse") ap) [] [] cp) p) env) Q E s := by
  refine wpAny_Expr ?_ (not_inter K) (by rfl)
  refine wpAny_Call_method_lateS (attr_plain (fun _ _ _ q => nomatch q)) (by rfl) hline ?_
  obtain ⟨l, ho, rd, lr⟩ := F.ownAt hl
  refine rd.name K F.rs.gw ?_
  have lr' := lr
  obtain ⟨it, ⟨k, hp⟩, r⟩ := lr
  refine ⟨"list", _, PySem.F.plainAttrs_list, PySem.F.slot_list_reverse, PySem.F.type_list_reverse, ⟨_, hp, rfl⟩, (fun a q => by cases q; exact ⟨_, hp, rfl⟩), ?_⟩
  refine P.reverse_list hp ?_ (by rw [List.size_toArray, r.length]; exact Nat.le_trans hlen (by simp [sizeLine]))
  refine hn _ own _ (F.putOwn (ws := vs.reverse) (tk := s.toks) ho rd rfl lr' hno ⟨it.reverse, ⟨k, (Heap.get?_update_self _ hp rfl).trans ?_⟩, r.reverse⟩ (Heap.SameBut.update ..).extBut) hk
  simp [Obj.mapSeq]

theorem st_while (ih : ExOk W S R N u on es n) (hR : Room A R) (K : EnvOk env) (hes : ∀ x k, kindIn es.names x k = true → env.kindOf x = some k) (F : FS W S u env own ρ s₀ s) {t : Expr} {body : List Stmt} {p : Pos} (I : Nat → Loc → Prop) (h0 : ∃ m, I m ρ)
    (h : ∀ m ρ', I m ρ' → tsE S R N u es ρ' t fun c => (c = true → exs (exE S R u N on es n) body ρ' (fun ρ'' => ∃ m', m' < m ∧ I m' (keepv (names ρ) ρ'')) kr) ∧ (c = false → kn ρ'))
    (hn : ∀ s' own' ρ', FS W S u env own' ρ' s₀ s' → kn ρ' → Q .next s')
    (hr : ∀ v s' own' ρ' a, FS W S u env own' ρ' s₀ s' → RRep (Fk W S) own' s₀.heap s'.heap v a → kr a → Q (.ret v) s') : wpAny (model W.prog W.w) A (exec (.While t body [] p) env) Q E s := by
  obtain ⟨m, hm⟩ := h0
  refine wpAny_While (codeAny_whileLoop (fun k s' => ∃ own' ρ', FS W S u env own' ρ' s₀ s' ∧ I k ρ') ?_ m ⟨own, ρ, F, hm⟩)
  rintro k s' ⟨own', ρ', F', hI⟩
  refine (ev_all W S R N).2.1 u es ρ' t _ A env own' s' _ _ hR K hes F'.rs (h k ρ' hI) fun c s'' hx hc => ?_
  have F2 := F'.ext hx
  cases c with
  | false =>
    simp only [Bool.false_eq_true, if_false]
    exact wpAny_execs_nil (hn _ _ _ F2 (hc.2 rfl))
  | true =>
    simp only [if_true]
    refine exs_sound (Q := fun f s3 => match f with | .ret v => Q (.ret v) s3 | _ => True) ih hR K hes (fun v s3 o3 ρ3 a F3 ra ka => hr v s3 o3 ρ3 a F3 ra ka) body ρ' own' s'' _ F2 (hc.1 rfl) (fun s3 o3 ρ3 F3 hk => ?_) fun v s3 q => q
    obtain ⟨m', hlt, hI'⟩ := hk
    refine ⟨m', hlt, o3, _, F3.sub fun x a hxa => ?_, hI'⟩
    rw [look_keepv] at hxa
    split at hxa
    · exact hxa
    · cases hxa

/-- a turn's state: the iterator's places stand apart from the frame's own -/
structure LoopAt (W : Wd) (S : Nat → Sig) (u : Bool) (env : Env) (own : Option Addr) (ρ : Loc) (s₀ : Shared) (I : Addr) (fp : List Addr) (St : Nat → Heap → Prop) (i : Nat) (s : Shared) : Prop where
  fs : FS W S u env own ρ s₀ s
  st : St i s.heap
  fpk : ∀ b ∈ fp, ∃ o, s.heap.get? b = some o ∧ o.cls ≠ .none ∧ b ∉ hid env own ∧ (b ≠ I → ∃ it n, o.data = .seq it n)
  iI : s₀.heap.get? I = none
  nI : I ∉ hid env own

theorem FS.notHid (F : FS W S u env own ρ s₀ s) {b : Addr} {o : Obj} (hb : s.heap.get? b = some o) (hd : (∃ vs, o.data = .fields vs) ∨ ((∃ it n, o.data = .seq it n) ∧ own ≠ some b)) : b ∉ hid env own := by
  intro hm
  rcases mem_hid.mp hm with rfl | ho | ⟨x, hk, hc⟩
  · obtain ⟨m, o', es', ep, e1, e2, _⟩ := F.loc
    rw [hb] at e1; cases e1
    rcases hd with ⟨vs, hd⟩ | ⟨⟨it, n, hd⟩, _⟩ <;> (rw [hd] at e2; cases e2)
  · rcases hd with ⟨vs, hd⟩ | ⟨_, hne⟩
    · obtain ⟨o', it, n, e1, e2, e3⟩ := F.rs.ow _ ho
      rw [hb] at e1; cases e1; rw [hd] at e3; cases e3
    · exact hne ho
  · obtain ⟨c, v, h1, ⟨o', e1, e2⟩, _⟩ := F.cell x hk
    rw [hc] at h1; cases h1
    rw [hb] at e1; cases e1
    rcases hd with ⟨vs, hd⟩ | ⟨⟨it, n, hd⟩, _⟩ <;> (rw [hd] at e2; cases e2)

theorem st_for (ih : ExOk W S R N u on es n) (hR : Room A R) (K : EnvOk env) (hes : ∀ x k, kindIn es.names x k = true → env.kindOf x = some k) (F : FS W S u env own ρ s₀ s) {x : Str} {iter : Expr} {body : List Stmt} {px p : Pos}
    (hx : nmOk es x = true) (hs : ∀ y env, foldedSetIterable iter env y = pure y)
    (h : evE S R N u es ρ iter fun it => isOwn it = false ∧ ∃ vs, iterV it = some vs ∧ vs.length ≤ 2 ^ 20 ∧
        ∃ I : Nat → Loc → Prop, I 0 (dropv x ρ) ∧ (∀ i v ρ', vs[i]? = some v → I i ρ' → exs (exE S R u N on es n) body ((x, .sc v) :: ρ') (fun ρ'' => I (i + 1) (keepv (names (dropv x ρ)) ρ'')) kr) ∧ ∀ ρ', I vs.length ρ' → kn ρ')
    (hn : ∀ s' own' ρ', FS W S u env own' ρ' s₀ s' → kn ρ' → Q .next s')
    (hr : ∀ v s' own' ρ' a, FS W S u env own' ρ' s₀ s' → RRep (Fk W S) own' s₀.heap s'.heap v a → kr a → Q (.ret v) s') : wpAny (model W.prog W.w) A (exec (.For (.Name x px) iter body [] p) env) Q E s := by
  obtain ⟨hk, hd⟩ := nmOk_kind hx hes
  refine wpAny_For ((ev_all W S R N).1 u es ρ iter _ A env own s _ _ hR K hes F.rs h fun xv s₁ a hx1 ra ka => ?_) (fun y => hs y env)
  obtain ⟨hown, vs, hv, hlen, J, hJ0, hturn, hend⟩ := ka
  refine iter_sound (s₀ := s) ra hv hR.hd hx1.ext F.rs.gw.tok (fun l hl => let ⟨o, _, _, ho, _⟩ := F.rs.ow l hl; ⟨o, ho⟩) fun it s₂ hk₂ hI => ?_
  obtain ⟨I, fp, P, St, hfpd, rfl, hIn, hw, hst, hfp, hP, hobj⟩ := hI
  have F₂ := (F.ext hx1).ext (.of_keeps hk₂)
  have hI0 : s₀.heap.get? I = none := F.ex.ext.nback F.rs.gw.tok hIn
  obtain ⟨oI, hoI, hiI⟩ := hobj _ _ hst
  have nI : I ∉ hid env own := F₂.notHid hoI (.inl hiI.2)
  have L₀ : LoopAt W S u env own (dropv x ρ) s₀ I fp St 0 s₂ := by
    refine ⟨F₂.sub fun y b hy => ?_, hst, fun b hb => ?_, hI0, nI⟩
    · rw [look_dropv] at hy
      split at hy
      · cases hy
      · exact hy
    · rcases hfpd b hb with rfl | ⟨⟨o, ho, hc, it, k, hd⟩, hne⟩
      · obtain ⟨hm, fs, hfd⟩ := hiI
        exact ⟨oI, hoI, (hm fs hfd).1, nI, fun q => absurd rfl q⟩
      · exact ⟨o, ho, by rw [hc]; nofun, F₂.notHid ho (.inr ⟨⟨it, k, hd⟩, hne hown⟩), fun _ => ⟨it, k, hd⟩⟩
  refine codeAny_forLoop (fun m s' => ∃ i own' ρ', m = vs.length + 1 - i ∧ i ≤ vs.length ∧ LoopAt W S u env own' ρ' s₀ I fp St i s' ∧ J i ρ' ∧ ∀ y b, look y ρ' = some b → memN y (names (dropv x ρ)) = true) ?_ (vs.length + 1) ⟨0, own, _, rfl, Nat.zero_le _, L₀, hJ0, fun y b hy => ?_⟩
  · rintro m s' ⟨i, own', ρ', rfl, hi, L, hJ, hdom⟩
    obtain ⟨oI', hoI', hiI'⟩ := hobj _ _ L.st
    by_cases hlt : i < vs.length
    · refine hw.item i s' _ _ hlt L.st fun v h' tk hPv hst' hkeep => ?_
      have hext : Heap.ExtBut I s'.heap h' := fun b o hb e => hkeep b o (by simpa using hb) e
      have F3 := L.fs.mutIter (tk := tk) L.iI hoI' hiI' hext
      obtain ⟨oI3, hoI3, hiI3⟩ := hobj _ _ hst'
      obtain ⟨a, ha, hsv⟩ := hP i v hPv
      obtain ⟨sb, Fb, hback, hkb, hnb, _⟩ := F3.rebase
      -- the iterator's places at the new base
      have fp3 : ∀ b ∈ fp, ∃ o, h'.get? b = some o ∧ o.cls ≠ .none ∧ b ∉ hid env own' ∧ (b ≠ I → ∃ it n, o.data = .seq it n) := by
        intro b hb
        by_cases hbI : b = I
        · subst hbI
          obtain ⟨hm, fs, hfd⟩ := hiI3
          exact ⟨oI3, hoI3, (hm fs hfd).1, L.nI, fun q => absurd rfl q⟩
        · obtain ⟨o, ho, hc, hh, hd⟩ := L.fpk b hb
          exact ⟨o, hext b o hbI ho, hc, hh, hd⟩
      have later : ∀ s4 own4 ρ4, FS W S u env own4 ρ4 sb s4 → (∀ b ∈ fp, ∀ o, h'.get? b = some o → s4.heap.get? b = some o) := by
        intro s4 own4 ρ4 F4 b hb o ho
        obtain ⟨o2, ho2, hc, hh, _⟩ := fp3 b hb
        rw [ho] at ho2; cases ho2
        exact F4.ex.ext.keep b o (TOk.notTb F3.rs.gw.tok ho hc) (hkb b o ho hh)
      refine wpAny_assign_Name (Fb.store K hk hd (a := .sc a) hsv fun s4 F4 _ => ?_)
      have F4' : FS W S u env own' ((x, .sc a) :: ρ') sb s4 := F4.sub fun y b hy => by
        rw [look_setv]
        simp only [look] at hy
        exact hy
      refine exs_sound (Q := fun f s5 => match f with | .ret v => Q (.ret v) s5 | _ => True) ih hR K hes (fun v s5 o5 ρ5 b F5 rb kb => ?_) body _ own' s4 _ F4' (hturn i a ρ' ha hJ) (fun s5 o5 ρ5 F5 hk5 => ?_) fun v s5 q => q
      · exact hr v s5 o5 ρ5 b (hback _ _ _ F5) (rb.base hnb) kb
      · have lk := later s5 o5 ρ5 F5
        have hown5 : ∀ b ∈ fp, ∃ o, s5.heap.get? b = some o ∧ o.cls ≠ .none ∧ b ∉ hid env o5 ∧ (b ≠ I → ∃ it n, o.data = .seq it n) := by
          intro b hb
          obtain ⟨o, ho, hc, hh, hd⟩ := fp3 b hb
          refine ⟨o, lk b hb o ho, hc, fun q => ?_, hd⟩
          rcases mem_hid.mp q with q | q | q
          · exact hh (mem_hid.mpr (.inl q))
          · have := F5.on _ q
            rw [hkb b o ho hh] at this; cases this
          · exact hh (mem_hid.mpr (.inr (.inr q)))
        refine ⟨vs.length + 1 - (i + 1), ns_lt hlt, i + 1, o5, _, rfl, hlt, ⟨(hback _ _ _ F5).sub fun y b hy => ?_, hw.frame _ _ _ hst' lk, hown5, L.iI, ?_⟩, hk5, fun y b hy => ?_⟩
        · rw [look_keepv] at hy
          split at hy
          · exact hy
          · cases hy
        · intro q
          rcases mem_hid.mp q with q | q | q
          · exact L.nI (mem_hid.mpr (.inl q))
          · have := F5.on _ q
            rw [hkb I oI3 hoI3 L.nI] at this; cases this
          · exact L.nI (mem_hid.mpr (.inr (.inr q)))
        · rw [look_keepv] at hy
          split at hy
          · rename_i q; exact q
          · cases hy
    · have hi' : i = vs.length := by omega
      subst hi'
      refine hw.done s' _ _ L.st fun h' tk hkeep => ?_
      have hext : Heap.ExtBut I s'.heap h' := fun b o hb e => hkeep b o (by simpa using hb) e
      exact wpAny_execs_nil (hn _ _ _ (L.fs.mutIter (tk := tk) L.iI hoI' hiI' hext) (hend _ hJ))
  · rw [look_dropv] at hy
    split at hy
    · cases hy
    · rename_i hyx
      refine memN_iff.mpr ?_
      have : ∀ (ρ : Loc) b, look y ρ = some b → y ≠ x → y ∈ names (dropv x ρ) := by
        intro ρ
        induction ρ with
        | nil => intro b h; simp [look] at h
        | cons z r ih2 =>
          intro b h hne
          obtain ⟨z, c⟩ := z
          unfold dropv
          unfold look at h
          split at h
          · rename_i hyz
            subst hyz
            rw [if_neg (Ne.symm hne)]
            simp [names]
          · split
            · exact ih2 _ h hne
            · simp only [names, List.map_cons, List.mem_cons]
              exact .inr (ih2 _ h hne)
      exact this ρ b hy hyx

inductive Items (F : Nat → Value → Prop) (own : Option Addr) (h : Heap) : List Value → List AV → Prop
  | nil : Items F own h [] []
  | cons {v a vs as} : itemOk a = true → VRep F own h v a → Items F own h vs as → Items F own h (v :: vs) (a :: as)
theorem Items.of {F : Nat → Value → Prop} {own : Option Addr} {h₀ h : Heap} {vs as} (x : RReps F own h₀ h vs as) : as.all itemOk = true → Items F own h vs as := by
  induction x with
  | nil => intro _; exact .nil
  | cons ra rr ih =>
    rename_i v a vs as
    intro hq
    simp only [List.all_cons, Bool.and_eq_true] at hq
    refine .cons hq.1 ?_ (ih hq.2)
    cases a with
    | sc => exact ra
    | list t ws => cases t with
      | shr => exact ra
      | _ => simp [itemOk] at hq
    | _ => simp [itemOk] at hq
theorem Items.length {F : Nat → Value → Prop} {own : Option Addr} {h : Heap} {vs as} (x : Items F own h vs as) : vs.length = as.length := by
  induction x with
  | nil => rfl
  | cons _ _ _ ih => simp [ih]
theorem Items.imp {F : Nat → Value → Prop} {own own' : Option Addr} {h h' : Heap} (k : ∀ l vs, own ≠ some l → LRep h l vs → own' ≠ some l ∧ LRep h' l vs) {vs as} (x : Items F own h vs as) : Items F own' h' vs as := by
  induction x with
  | nil => exact .nil
  | cons hq ra _ ih =>
    rename_i v a vs as _
    refine .cons hq ?_ ih
    cases a with
    | sc => exact ra
    | list t ws => cases t with
      | shr =>
        obtain ⟨l, rfl, h1, h2⟩ := ra
        exact ⟨l, rfl, k l _ h1 h2⟩
      | _ => simp [itemOk] at hq
    | _ => simp [itemOk] at hq

theorem st_forU (ih : ExOk W S R N u on es n) (hR : Room A R) (K : EnvOk env) (hes : ∀ x k, kindIn es.names x k = true → env.kindOf x = some k) (F : FS W S u env own ρ s₀ s) {x : Str} {el : List Expr} {body : List Stmt} {px lp p : Pos}
    (hx : nmOk es x = true) (hs : ∀ y env, foldedSetIterable (.List el lp) env y = pure y) (hst : noStar el = true)
    (h : evs (evE S R N u es ρ) el fun as => as.length ≤ 2 ^ 20 ∧ as.all itemOk = true ∧ unr (fun ρ k => exs (exE S R u N on es n) body ρ k kr) x as ρ kn)
    (hn : ∀ s' own' ρ', FS W S u env own' ρ' s₀ s' → kn ρ' → Q .next s')
    (hr : ∀ v s' own' ρ' a, FS W S u env own' ρ' s₀ s' → RRep (Fk W S) own' s₀.heap s'.heap v a → kr a → Q (.ret v) s') : wpAny (model W.prog W.w) A (exec (.For (.Name x px) (.List el lp) body [] p) env) Q E s := by
  obtain ⟨hk, hd⟩ := nmOk_kind hx hes
  refine wpAny_For (wpAny_List (evs_sound (ev_all W S R N).1 hR K hes el _ s _ F.rs hst h fun vs s₁ as hx1 rs ka => ?_)) (fun y => hs y env)
  obtain ⟨hlen, hit, hun⟩ := ka
  have it₁ := Items.of rs hit
  have hl := it₁.length
  refine ⟨by rw [hl]; exact Nat.le_trans hlen (by simp [sizeLine]), ?_⟩
  have hL : ({ s₁ with heap := s₁.heap.push { cls := .type "list", data := .seq vs.toArray } } : Shared).heap.IsList s₁.heap.objs.size vs.toArray := ⟨_, Heap.get?_push_size _ rfl, rfl, _, rfl⟩
  refine wpAny_pyIter_list hL ?_
  -- the list, its iterator
  generalize hl0 : s₁.heap.objs.size = l
  have hln : s₁.heap.get? l = none := by rw [← hl0]; exact fresh_top _
  have hI : (s₁.heap.push { cls := .type "list", data := .seq vs.toArray }).objs.size = l + 1 := by rw [Heap.size_push, hl0]
  have F1 := F.ext hx1
  have e2 : Ex W u s₁ { s₁ with heap := (s₁.heap.push { cls := .type "list", data := .seq vs.toArray }).push { cls := .type "list_iterator", data := .fields #[.ref l, .int 0 0] } } :=
    .heap (tk := s₁.toks) fun b o e => Heap.get?_push_of_some _ (Heap.get?_push_of_some _ e)
  have F2 := F1.ext e2
  have hl2 : ((s₁.heap.push { cls := .type "list", data := .seq vs.toArray }).push { cls := .type "list_iterator", data := .fields #[.ref l, .int 0 0] }).get? l = some { cls := .type "list", data := .seq vs.toArray } :=
    Heap.get?_push_of_some _ (by rw [← hl0]; exact Heap.get?_push_size _ rfl)
  have hI2 : ((s₁.heap.push { cls := .type "list", data := .seq vs.toArray }).push { cls := .type "list_iterator", data := .fields #[.ref l, .int 0 0] }).get? (l + 1) = some { cls := .type "list_iterator", data := .fields #[.ref l, .int 0 0] } := by
    rw [← hI]; exact Heap.get?_push_size _ rfl
  have hI0 : s₀.heap.get? (l + 1) = none := by
    refine F1.ex.ext.nback F1.rs.gw.tok ?_
    exact Heap.get?_none_of_le (by rw [hl0]; omega)
  have hw := Walks.list (prog := W.prog) (w := W.w) hR.hd (l + 1) l (Nat.ne_of_lt (Nat.lt_succ_self l)) vs.toArray
  have hobj : ∀ i (h : Heap), (h.IsListIter (l + 1) l i ∧ h.IsList l vs.toArray) → ∃ o, h.get? (l + 1) = some o ∧ IterObj o := by
    rintro i h ⟨⟨o, ho, hc, hd⟩, _⟩
    refine ⟨o, ho, fun fs hfs => ?_, _, hd⟩
    rw [hd] at hfs; cases hfs
    exact ⟨by rw [hc]; nofun, by intro x t; simp⟩
  have hown : own ≠ some l := fun q => by
    obtain ⟨o, _, _, ho, _⟩ := F1.rs.ow l q
    rw [hln] at ho; cases ho
  have nI : (l + 1) ∉ hid env own := F2.notHid hI2 (.inl ⟨_, rfl⟩)
  have it₂ : Items (Fk W S) own ((s₁.heap.push { cls := .type "list", data := .seq vs.toArray }).push { cls := .type "list_iterator", data := .fields #[.ref l, .int 0 0] }) vs as :=
    it₁.imp fun l' ws h1 h2 => ⟨h1, h2.ext F1.rs.gw.tok e2.ext⟩
  have goal : ∀ {I : Addr} (hI' : I = l + 1), codeAny (model W.prog W.w) A (.forLoop (.Name x px) (.ref I) body [] env) (fun r s' => match r with | .ok f => Q f s' | .error e => cameBackBy (model W.prog W.w) A env E e s')
      { s₁ with heap := (s₁.heap.push { cls := .type "list", data := .seq vs.toArray }).push { cls := .type "list_iterator", data := .fields #[.ref l, .int 0 0] } } := by
    rintro I rfl
    refine codeAny_forLoop (fun m s' => ∃ i own' ρ', m = vs.length + 1 - i ∧ i ≤ vs.length ∧ LoopAt W S u env own' ρ' s₀ (l + 1) [l + 1, l] (fun i h => h.IsListIter (l + 1) l i ∧ h.IsList l vs.toArray) i s' ∧
      Items (Fk W S) own' s'.heap (vs.drop i) (as.drop i) ∧ unr (fun ρ k => exs (exE S R u N on es n) body ρ k kr) x (as.drop i) ρ' kn) ?_ (vs.length + 1) ⟨0, own, ρ, rfl, Nat.zero_le _, ⟨F2, ⟨⟨_, hI2, rfl, rfl⟩, ⟨_, hl2, rfl, _, rfl⟩⟩, fun b hb => ?_, hI0, nI⟩, it₂, hun⟩
    · rintro m s' ⟨i, own', ρ', rfl, hi, L, hits, hun'⟩
      obtain ⟨oI', hoI', hiI'⟩ := hobj _ _ L.st
      by_cases hlt : i < vs.length
      · refine hw.item i s' _ _ (by simpa using hlt) L.st fun v h' tk hPv hst' hkeep => ?_
        have hext : Heap.ExtBut (l + 1) s'.heap h' := fun b o hb e => hkeep b o (by simpa using hb) e
        have F3 := L.fs.mutIter (tk := tk) L.iI hoI' hiI' hext
        obtain ⟨oI3, hoI3, hiI3⟩ := hobj _ _ hst'
        have hve : vs[i]? = some v := by simpa using hPv
        have hdv : vs.drop i = v :: vs.drop (i + 1) := by
          rw [List.drop_eq_getElem_cons hlt]
          rw [List.getElem?_eq_getElem hlt] at hve
          simp only [Option.some.injEq] at hve
          rw [hve]
        have hlt' : i < as.length := by omega
        have hda : as.drop i = as[i] :: as.drop (i + 1) := List.drop_eq_getElem_cons hlt'
        rw [hdv, hda] at hits
        rw [hda] at hun'
        obtain ⟨sb, Fb, hback, hkb, hnb, _⟩ := F3.rebase
        have fp3 : ∀ b ∈ [l + 1, l], ∃ o, h'.get? b = some o ∧ o.cls ≠ .none ∧ b ∉ hid env own' ∧ (b ≠ l + 1 → ∃ it n, o.data = .seq it n) := by
          intro b hb
          by_cases hbI : b = l + 1
          · subst hbI
            obtain ⟨hm, fs, hfd⟩ := hiI3
            exact ⟨oI3, hoI3, (hm fs hfd).1, L.nI, fun q => absurd rfl q⟩
          · obtain ⟨o, ho, hc, hh, hd⟩ := L.fpk b hb
            exact ⟨o, hext b o hbI ho, hc, hh, hd⟩
        have later : ∀ s4 own4 ρ4, FS W S u env own4 ρ4 sb s4 → (∀ b ∈ [l + 1, l], ∀ o, h'.get? b = some o → s4.heap.get? b = some o) := by
          intro s4 own4 ρ4 F4 b hb o ho
          obtain ⟨o2, ho2, hc, hh, _⟩ := fp3 b hb
          rw [ho] at ho2; cases ho2
          exact F4.ex.ext.keep b o (TOk.notTb F3.rs.gw.tok ho hc) (hkb b o ho hh)
        have hits3 : Items (Fk W S) own' h' (v :: vs.drop (i + 1)) (as[i] :: as.drop (i + 1)) := hits.imp fun l' ws h1 h2 => ⟨h1, h2.mutNe hoI' (by obtain ⟨fs, hfd⟩ := hiI'.2; intro it n q; rw [hfd] at q; cases q) hext⟩
        cases hits3 with
        | cons hq hv hrest =>
          refine wpAny_assign_Name (Fb.store K hk hd hv fun s4 F4 _ => ?_)
          refine exs_sound (Q := fun f s5 => match f with | .ret v => Q (.ret v) s5 | _ => True) ih hR K hes (fun v s5 o5 ρ5 b F5 rb kb => ?_) body _ own' s4 _ F4 hun' (fun s5 o5 ρ5 F5 hk5 => ?_) fun v s5 q => q
          · exact hr v s5 o5 ρ5 b (hback _ _ _ F5) (rb.base hnb) kb
          · have lk := later s5 o5 ρ5 F5
            have hown5 : ∀ b ∈ [l + 1, l], ∃ o, s5.heap.get? b = some o ∧ o.cls ≠ .none ∧ b ∉ hid env o5 ∧ (b ≠ l + 1 → ∃ it n, o.data = .seq it n) := by
              intro b hb
              obtain ⟨o, ho, hc, hh, hd⟩ := fp3 b hb
              refine ⟨o, lk b hb o ho, hc, fun q => ?_, hd⟩
              rcases mem_hid.mp q with q | q | q
              · exact hh (mem_hid.mpr (.inl q))
              · have := F5.on _ q
                rw [hkb b o ho hh] at this; cases this
              · exact hh (mem_hid.mpr (.inr (.inr q)))
            refine ⟨vs.length + 1 - (i + 1), ns_lt hlt, i + 1, o5, ρ5, rfl, hlt, ⟨hback _ _ _ F5, hw.frame _ _ _ hst' lk, hown5, L.iI, ?_⟩, hrest.imp fun l' ws h1 h2 => ?_, hk5⟩
            · intro q
              rcases mem_hid.mp q with q | q | q
              · exact L.nI (mem_hid.mpr (.inl q))
              · have := F5.on _ q
                rw [hkb (l + 1) oI3 hoI3 L.nI] at this; cases this
              · exact L.nI (mem_hid.mpr (.inr (.inr q)))
            · obtain ⟨o, it, k, ho, hc, hd⟩ := h2.obj
              have hh : l' ∉ hid env own' := F3.notHid ho (.inr ⟨⟨it, k, hd⟩, h1⟩)
              refine ⟨fun q => ?_, h2.at1 fun o' ho' => ?_⟩
              · have := F5.on _ q
                rw [hkb l' o ho hh] at this; cases this
              · rw [ho] at ho'; cases ho'
                exact F5.ex.ext.keep l' o (TOk.notTb F3.rs.gw.tok ho (by rw [hc]; nofun)) (hkb l' o ho hh)
      · have hi' : i = vs.length := by omega
        subst hi'
        rw [List.drop_eq_nil_of_le (by omega)] at hun'
        refine hw.done s' _ _ (by simpa using L.st) fun h' tk hkeep => ?_
        have hext : Heap.ExtBut (l + 1) s'.heap h' := fun b o hb e => hkeep b o (by simpa using hb) e
        exact wpAny_execs_nil (hn _ _ _ (L.fs.mutIter (tk := tk) L.iI hoI' hiI' hext) hun')
    · simp only [List.mem_cons, List.not_mem_nil, or_false] at hb
      rcases hb with rfl | rfl
      · exact ⟨_, hI2, nofun, nI, fun q => absurd rfl q⟩
      · exact ⟨_, hl2, nofun, F2.notHid hl2 (.inr ⟨⟨_, _, rfl⟩, hown⟩), fun _ => ⟨_, _, rfl⟩⟩
  have := goal hI
  rw [hl0] at *
  exact this

theorem ex_step (ih : ExOk W S R N u on es n) : ExOk W S R N u on es (n + 1) := by
  intro ρ st kn kr A env own s₀ s Q E hR K hes F h hn hr
  cases h with
  | comp h1 h2 h3 h4 h5 g h => exact st_comp hR K hes F h1 h2 h3 h4 h5 h hn
  | as h1 h2 h => exact st_assign hR K hes F h1 h2 h hn
  | tup xs h1 h2 h3 h4 h5 h6 h => exact st_tup hR K hes F h1 h2 h3 h4 h5 h6 h hn
  | untup xs h1 h2 h3 h4 h => exact st_untup hR K hes F h1 h2 h3 h4 h hn
  | put h1 h2 h => exact st_put hR K hes F h1 h2 h hn
  | aug h1 _ h2 h => exact st_aug hR K hes F h1 h2 h hn
  | ife h =>
    refine wpAny_If ((ev_all W S R N).2.1 u es ρ _ _ A env own s _ _ hR K hes F.rs h fun c s' hx hc => ?_)
    cases c with
    | true => exact exs_sound (Q := Q) ih hR K hes hr _ ρ own s' Q (F.ext hx) (hc.1 rfl) hn fun _ _ q => q
    | false => exact exs_sound (Q := Q) ih hR K hes hr _ ρ own s' Q (F.ext hx) (hc.2 rfl) hn fun _ _ q => q
  | forU h1 h2 h3 h => exact st_forU ih hR K hes F h1 h2 h3 h hn hr
  | «for» h1 h2 h => exact st_for ih hR K hes F h1 h2 h hn hr
  | «while» I h0 h => exact st_while ih hR K hes F I h0 h hn hr
  | «try» h =>
    refine wpAny_Try_except (exs_sound (Q := Q) ih hR K hes hr _ ρ own s _ F h (fun s' own' ρ' F' hk => ?_) fun v s' q => q)
    exact exs_sound (Q := Q) ih hR K hes hr _ ρ' own' s' Q F' hk hn fun _ _ q => q
  | pass h => exact wpAny_Pass (hn _ _ _ F h)
  | ret h =>
    refine wpAny_Return_some ((ev_all W S R N).1 u es ρ _ _ A env own s _ _ hR K hes F.rs h fun v s' a hx ra ka => ?_)
    exact hr v s' own ρ a (F.ext hx) (ra.base fun l hl => F.ex.ext.nback F.rs.gw.tok hl) ka
  | app h1 h2 h3 h4 h => exact st_append hR K hes F h1 h2 h3 h4 h hn
  | rev h1 h2 h3 h4 h => exact st_reverse K F h1 h2 h3 h4 h hn
theorem ex_all (W : Wd) (S : Nat → Sig) (R N : Nat) (u : Bool) (on : Str) (es : Scope) : ∀ n, ExOk W S R N u on es n
  | 0 => fun _ _ _ _ _ _ _ _ _ _ _ _ _ _ _ h => h.elim
  | n + 1 => ex_step (ex_all W S R N u on es n)
end
end
section
open PySem PySem.W PyProof.Rows PySem.Calls PyProof.V PySem.Spec PySem.SeqAt

theorem Room.deeper {A : Around} {n : Nat} {env : Env} (r : Room A (n + 1)) (h1 : env.scope.isGenerator = false) (h2 : env.scope.isCoroutine = false) (h3 : env.builtins = builtinsNs) (h4 : env.globals = mainGlobals) : Room (A.deeper env) n := by
  obtain ⟨e, l, hf, _⟩ := r.fr
  refine ⟨r.hd, ⟨env, e :: l, by simp [Around.deeper, hf], h1, h2, h3, h4⟩, ?_, ?_⟩
  · show A.depth + 1 + n ≤ 800
    have := r.dp; omega
  · show A.units + 3 + 8 * n ≤ 9000
    have := r.un; omega

theorem bindL_other {f : Str → Option NameKind} : ∀ (l : List (Str × Value)) (m : Str → Option Value) (y : Str), y ∉ l.map (·.1) → bindL f l m y = m y
  | [], _, _, _ => rfl
  | (n, v) :: r, m, y, h => by
    simp only [List.map_cons, List.mem_cons, not_or] at h
    unfold bindL
    rw [bindL_other r _ y h.2]
    split
    · simp [h.1]
    · rfl
theorem bindL_get {f : Str → Option NameKind} (l : List (Str × Value)) (m : Str → Option Value) (y : Str) (v : Value) (hn : (l.map (·.1)).Nodup) (hm : (y, v) ∈ l) (hk : f y = some .local) : bindL f l m y = some v := by
  induction l generalizing m with
  | nil => cases hm
  | cons p r ih =>
    obtain ⟨n, w⟩ := p
    simp only [List.map_cons, List.nodup_cons] at hn
    unfold bindL
    rcases List.mem_cons.mp hm with e | hm
    · cases e
      rw [bindL_other r _ _ hn.1, if_pos hk]
      simp
    · exact ih _ hn.2 hm
theorem bindC_other {f : Str → Option NameKind} : ∀ (l : List (Str × Value)) (m : Str → Option Value) (y : Str), y ∉ l.map (·.1) → bindC f l m y = m y
  | [], _, _, _ => rfl
  | (n, v) :: r, m, y, h => by
    simp only [List.map_cons, List.mem_cons, not_or] at h
    unfold bindC
    rw [bindC_other r _ y h.2]
    split
    · rfl
    · simp [h.1]
theorem bindC_get {f : Str → Option NameKind} : ∀ (l : List (Str × Value)) (m : Str → Option Value) (y : Str) (v : Value), (l.map (·.1)).Nodup → (y, v) ∈ l → f y ≠ some .local → bindC f l m y = some v
  | (n, w) :: r, m, y, v, hn, hm, hk => by
    simp only [List.map_cons, List.nodup_cons] at hn
    unfold bindC
    rcases List.mem_cons.mp hm with e | hm
    · cases e
      rw [bindC_other r _ _ hn.1, if_neg hk]
      simp
    · exact bindC_get r _ y v hn.2 hm hk

noncomputable def argA : AV → AV
  | .list _ vs => .list .shr vs
  | a => a
noncomputable def argOk : AV → Bool
  | .list _ _ => true
  | .sc _ => true
  | _ => false
noncomputable def entry : List Str → List AV → Loc
  | x :: xs, a :: as => (x, argA a) :: entry xs as
  | _, _ => []
/-- what is handed back -/
noncomputable def back (k : AV → Prop) : AV → Prop
  | .sc v => k (.sc v)
  | .list .own vs => k (.list .tmp vs)
  | .list .tmp vs => k (.list .tmp vs)
  | .tup vs => k (.tup vs)
  | _ => False

theorem arg_vrep {F : Nat → Value → Prop} {h : Heap} {v : Value} {a : AV} (x : ARep h v a) (hq : argOk a = true) : VRep F none h v (argA a) := by
  cases a with
  | sc a => exact x
  | list t vs => obtain ⟨l, rfl, x⟩ := x; exact ⟨l, rfl, nofun, x⟩
  | _ => simp [argOk] at hq

theorem entry_look {F : Nat → Value → Prop} {h : Heap} : ∀ {xs : List Str} {vs : List Value} {as : List AV} {x : Str} {a : AV}, AReps h vs as → as.all argOk = true → look x (entry xs as) = some a → ∃ v, (x, v) ∈ xs.zip vs ∧ VRep F none h v a
  | [], _, _, _, _, _, _, hx => by simp [entry, look] at hx
  | y :: xs, _, _, x, a, .nil, _, hx => by simp [entry, look] at hx
  | y :: xs, _, _, x, a, .cons hv hr, hq, hx => by
    simp only [List.all_cons, Bool.and_eq_true] at hq
    simp only [entry, look] at hx
    split at hx
    · rename_i e
      subst e
      simp only [Option.some.injEq] at hx
      subst hx
      exact ⟨_, by simp, arg_vrep hv hq.1⟩
    · obtain ⟨v, hm, hv'⟩ := entry_look hr hq.2 hx
      exact ⟨v, by simp [hm], hv'⟩

theorem look_append (x : Str) : ∀ (a b : Loc), look x (a ++ b) = (look x a).or (look x b)
  | [], b => by simp [look]
  | (y, v) :: r, b => by
    simp only [List.cons_append, look]
    split
    · simp
    · exact look_append x r b

/-- a def of the text: its body's conditions give its contract -/
structure DefOk (W : Wd) (S : Nat → Sig) (f : Addr) (fd : FuncData) (body : List Stmt) (xs : List Str) (glob : Loc) : Prop where
  at' : ∃ o, W.g.get? f = some o ∧ o.data = .func fd
  co : fd.scope.isCoroutine = false
  gen : fd.scope.isGenerator = false
  kind : fd.scope.kind = .function
  body' : fd.body = .stmts body
  clo : fd.closure = []
  gl : fd.globals = mainGlobals
  bu : fd.builtins = builtinsNs
  code : W.g.CodeRec fd.code fd.qualname
  nd : xs.Nodup
  par : ∀ x ∈ xs, (x == ("__debug__" : Str)) = false ∧ (fd.scope.names.lookup x = some .local ∨ (fd.scope.names.lookup x = some .cell ∧ ∀ n, ((cellsFrom n fd.scope.names []).lookup x).isSome = true))
  cel : ∀ x, fd.scope.names.lookup x = some .cell → ∀ n, ((cellsFrom n fd.scope.names []).lookup x).isSome = true
  cnd : ((cellsFrom 0 fd.scope.names []).map (·.1)).Nodup
  gk : ∀ x a, look x glob = some a → (x == ("__debug__" : Str)) = false ∧ ∃ v, fd.scope.names.lookup x = some .globalImplicit ∧ (W.mg x = some v ∨ (W.mg x = none ∧ x ≠ ("__name__" : Str) ∧ bootBuiltins x = some v)) ∧ ∀ h, VRep (Fk W S) none h v a

theorem def_sem {W : Wd} {S : Nat → Sig} {f : Addr} {fd : FuncData} {body : List Stmt} {xs : List Str} {glob : Loc} {sg : Sig} {R : Nat} (D : DefOk W S f fd body xs glob) (hlv : sg.lv = R + 1) {ex : List Value} {exA : List AV}
    (hex : ∀ h, AReps h ex exA)
    (hbind : ∀ (s : Shared) (vals : List Value), GW W s.heap → vals.length + ex.length = xs.length → BindsTo s fd ⟨vals, []⟩ (xs.zip (vals ++ ex)))
    (hsh : ∀ as k, sg.φ as k → as.length + ex.length = xs.length ∧ (as ++ exA).all argOk = true)
    (hsem : ∀ (A : Around) (env : Env) (s₀ s : Shared) (E : Value → Shared → Prop) (as : List AV) (k : AV → Prop) (Q : Flow → Shared → Prop), Room A R → EnvOk env → (∀ x k, kindIn fd.scope.names x k = true → env.kindOf x = some k) →
      env = newEnv fd.scope s₀.heap.objs.size fd.globals (cellsFrom (s₀.heap.objs.size + 1) fd.scope.names []) (fd.qualname ++ ".<locals>.") (some f) fd.code none fd.builtins →
      FS W S sg.ub env none (entry xs (as ++ exA) ++ glob) s₀ s → sg.φ as k →
      (∀ v s' own' ρ' a, FS W S sg.ub env own' ρ' s₀ s' → RRep (Fk W S) own' s₀.heap s'.heap v a → back k a → Q (.ret v) s') → wpAny (model W.prog W.w) A (execs body env) Q E s) : FnOk W sg (.ref f) := by
  obtain ⟨o, hf, hd⟩ := D.at'
  refine ⟨.inr (.inr ⟨f, o, fd, rfl, hf, hd⟩), fun A s vs as k Q E hR G har hφ hQ => ?_⟩
  obtain ⟨hlen, hargs⟩ := hsh as k hφ
  rw [hlv] at hR
  have hvl : vs.length = as.length := by
    have : ∀ {vs as}, AReps s.heap vs as → vs.length = as.length := by
      intro vs as q
      induction q with
      | nil => rfl
      | cons _ _ ih => simp [ih]
    exact this har
  refine wpAny_call (codeAny_call_function (by have := hR.dp; simp only [recursionLimit]; omega) (G.keep _ _ hf) hd D.co D.gen D.body' (D.code.keeps G.keep) ?_)
  refine hbind s vs G (by omega) _ _ _ _ ?_
  rw [D.clo]
  have hzip : ∀ y ∈ xs.zip (vs ++ ex), y.1 ∈ xs := fun y hy => (List.of_mem_zip hy).1
  refine wpAny_newFunctionEnv_cells D.kind (fun y hy => ((D.par y.1 (hzip y hy)).2).imp id fun q => ⟨q.1, q.2 _⟩) fun env he s₁ x => ?_
  refine ⟨G.nl.keeps x.toInCall.keep, codeAny_func ?_⟩
  have hsc : env.scope = fd.scope := by rw [he]; rfl
  have hco : ∀ y, env.kindOf y = fd.scope.names.lookup y := fun y => by rw [he]; rfl
  have hcells : env.cells = cellsFrom (s.heap.objs.size + 1) fd.scope.names [] := by rw [he]; rfl
  have hloc : env.locals = s.heap.objs.size := by rw [he]; rfl
  have hgl : env.globals = mainGlobals := by rw [he]; exact D.gl
  have hbu : env.builtins = builtinsNs := by rw [he]; exact D.bu
  have K : EnvOk env := by
    refine ⟨by rw [hsc]; exact D.kind, hgl, hbu, fun y hy => ?_⟩
    rw [hco] at hy
    rw [hcells]
    exact Option.isSome_iff_exists.mp (D.cel y hy _)
  have keep : Keeps s s₁ := by
    obtain ⟨h', tk, e, k'⟩ := x.done
    exact ⟨h', tk, e, k'⟩
  have e1 : Ex W sg.ub s s₁ := .of_keeps keep
  have G1 : GW W s₁.heap := G.ext e1.ext
  have hnodup : (env.cells.map (·.1)).Nodup := by
    rw [hcells]
    exact (cellsFrom_names fd.scope.names 0 (s.heap.objs.size + 1) [] [] rfl) ▸ D.cnd
  have F : FS W S sg.ub env none (entry xs (as ++ exA) ++ glob) s s₁ := by
    refine ⟨⟨G1, fun y b hy => ?_, fun l hl => nomatch hl⟩, G.keep, e1, ⟨_, x.toInCall.ns⟩, by rw [hloc]; exact Heap.get?_none_of_le (Nat.le_refl _), fun y hy => ?_, ?_, fun l hl => nomatch hl⟩
    · rw [look_append] at hy
      cases hq : look y (entry xs (as ++ exA)) with
      | some b' =>
        rw [hq] at hy
        simp only [Option.some_or, Option.some.injEq] at hy
        subst hy
        have har' : AReps s₁.heap (vs ++ ex) (as ++ exA) := by
          have : ∀ {vs as}, AReps s₁.heap vs as → AReps s₁.heap (vs ++ ex) (as ++ exA) := by
            intro vs as q
            induction q with
            | nil => exact hex _
            | cons a _ ih => exact .cons a ih
          exact this (har.ext G.tok e1.ext)
        obtain ⟨v, hm, vr⟩ := entry_look (F := Fk W S) har' hargs hq
        have hyx : y ∈ xs := hzip _ hm
        have hnd' : ((xs.zip (vs ++ ex)).map (·.1)).Nodup := by
          rw [List.map_fst_zip (by simp; omega)]; exact D.nd
        obtain ⟨hdb, hp⟩ := D.par y hyx
        refine ⟨v, ⟨hdb, ?_⟩, vr⟩
        rcases hp with hp | ⟨hp, hp2⟩
        · have hk : env.kindOf y = some .local := by rw [hco]; exact hp
          exact .inl ⟨hk, _, x.toInCall.ns, bindL_get _ _ _ _ hnd' hm hk⟩
        · have hk : env.kindOf y = some .cell := by rw [hco]; exact hp
          obtain ⟨c, hc⟩ := Option.isSome_iff_exists.mp (hp2 (s.heap.objs.size + 1))
          rw [← hcells] at hc
          refine .inr (.inl ⟨hk, c, hc, ?_⟩)
          have := x.cell y c hc
          rwa [bindC_get _ _ _ _ hnd' hm (by rw [hk]; decide)] at this
      | none =>
        rw [hq] at hy
        simp only [Option.none_or] at hy
        obtain ⟨hdb, v, hk, hv, vr⟩ := D.gk y b hy
        have hk' : env.kindOf y = some .globalImplicit := by rw [hco]; exact hk
        refine ⟨v, ⟨hdb, ?_⟩, vr _⟩
        rcases hv with hv | ⟨h1, h2, h3⟩
        · exact .inr (.inr (.inr (.inl ⟨hk', hv⟩)))
        · exact .inr (.inr (.inr (.inr ⟨hk', h1, h2, h3⟩)))
    · rw [hco] at hy
      obtain ⟨c, hc⟩ := Option.isSome_iff_exists.mp (D.cel y hy (s.heap.objs.size + 1))
      rw [← hcells] at hc
      refine ⟨c, _, hc, x.cell y c hc, Heap.get?_none_of_le ?_⟩
      have := x.above y c (Mine.mem_of_lookup hc)
      rw [hloc] at this
      exact Nat.le_of_lt this
    · intro y z c h1 h2
      exact PySem.name_of_addr x.apart (Mine.mem_of_lookup h1) (Mine.mem_of_lookup h2)
  refine wpAny_mono (hsem (A.deeper env) env s s₁ _ as k (fun f s' => match f with | .ret v => Q v s' | _ => False) (hR.deeper (by rw [hsc]; exact D.gen) (by rw [hsc]; exact D.co) hbu hgl) K (fun y kd hy => by rw [hco]; exact kindIn_iff.mp hy) he F hφ (fun v s' own' ρ' a F' ra ka => ?_)) (fun f s' q => ?_) fun _ _ q => q
  cases a with
  | sc a => exact hQ v s' (.sc a) F'.ex ra ka
  | list t ws =>
    cases t with
    | tmp => exact hQ v s' (.list .tmp ws) F'.ex ra ka
    | own =>
      obtain ⟨l, rfl, h1, h2⟩ := ra
      exact hQ _ s' (.list .tmp ws) F'.ex ⟨l, rfl, F'.on l h1, h2⟩ ka
    | shr => exact ka.elim
  | tup ws => exact hQ v s' (.tup ws) F'.ex ra ka
  | _ => exact ka.elim
  cases f with
  | ret v => exact q
  | _ => exact q.elim

theorem def_ok {W : Wd} {S : Nat → Sig} {f : Addr} {fd : FuncData} {body : List Stmt} {xs : List Str} {glob : Loc} {sg : Sig} {R N n : Nat} {on : Str} (D : DefOk W S f fd body xs glob) (hlv : sg.lv = R + 1) {ex : List Value} {exA : List AV}
    (hex : ∀ h, AReps h ex exA)
    (hbind : ∀ (s : Shared) (vals : List Value), GW W s.heap → vals.length + ex.length = xs.length → BindsTo s fd ⟨vals, []⟩ (xs.zip (vals ++ ex)))
    (hvc : ∀ as k, sg.φ as k → as.length + ex.length = xs.length ∧ (as ++ exA).all argOk = true ∧ exs (exE S R sg.ub N on fd.scope n) body (entry xs (as ++ exA) ++ glob) (fun _ => False) (back k)) : FnOk W sg (.ref f) :=
  def_sem D hlv hex hbind (fun as k h => ⟨(hvc as k h).1, (hvc as k h).2.1⟩) fun A env s₀ s E as k Q hR K hes he F hφ hq =>
    exs_sound (kn := fun _ => False) (kr := back k) (Q := Q) (ex_all W S R N sg.ub on fd.scope n) hR K hes hq body _ none s _ F (hvc as k hφ).2.2 (fun s' own' ρ' F' q => q.elim) fun v s' q => q
end
section
set_option maxRecDepth 100000
open PySem PySem.W PyProof.Rows PySem.Calls PyProof.V PySem.Spec PySem.SeqAt
theorem lk_str_gi : typeLookup (.type "str") "__getitem__" = pure (some (.builtin "str.__getitem__")) := by rw [typeLookup_type, builtinLookup_eq_fast]; kernel_rfl
theorem ty_str_gi : typeOf (.builtin "str.__getitem__") = pure (.type "wrapper_descriptor") := by show builtinType _ = _; rw [builtinType_eq_fast]; kernel_rfl
theorem lk_wd_get : typeLookup (.type "wrapper_descriptor") "__get__" = pure (some (.builtin "wrapper_descriptor.__get__")) := by rw [typeLookup_type, builtinLookup_eq_fast]; kernel_rfl
theorem lk_wd_set : typeLookup (.type "wrapper_descriptor") "__set__" = pure none := by rw [typeLookup_type, builtinLookup_eq_fast]; kernel_rfl
theorem lk_wd_del : typeLookup (.type "wrapper_descriptor") "__delete__" = pure none := by rw [typeLookup_type, builtinLookup_eq_fast]; kernel_rfl
theorem slot_wd_get : Slot "wrapper_descriptor" "__get__" "wrapper_descriptor.__get__" :=
  .of (owner := "wrapper_descriptor") (n := "__get__") (by rw [typeLookup_type, builtinLookup_eq_fast]; kernel_rfl) (by decide +kernel) (by decide +kernel) (by decide +kernel)
    (by first | exact .inl (by decide +kernel) | exact .inr (by decide +kernel)) (by rw [isSubtype_type]; kernel_rfl)
theorem entry_wd_get : entryFor table "wrapper_descriptor.__get__" = some Builtin.«wrapper_descriptor.__get__» := entryFor_of_tree (by kernel_rfl)
theorem args_wd_get (a b c : Value) : argsOk "wrapper_descriptor.__get__" ⟨[a, b, c], []⟩ := by unfold argsOk; kernel_rfl
theorem owner_str_gi : (".".intercalate ("str.__getitem__".cutAt '.').dropLast) = "str" := by
  have e0 : "str.__getitem__".cutAt '.' = ["str", "__getitem__"] := by first | rfl | decide +kernel
  rw [e0]; decide +kernel
theorem sub_str_gi : isSubtype (.type "str") (.type (".".intercalate ("str.__getitem__".cutAt '.').dropLast)) = pure true := by
  rw [owner_str_gi, isSubtype_type]; kernel_rfl
theorem kind_hasattr : builtinKind "hasattr" = none := by decide +kernel
theorem plain_hasattr : plainId "hasattr" = true := by decide +kernel
theorem entry_hasattr : entryFor table "hasattr" = some Builtin.«hasattr» := entryFor_of_fast (by kernel_rfl)
theorem args_hasattr (a b : Value) : argsOk "hasattr" ⟨[a, b], []⟩ := by unfold argsOk; kernel_rfl
set_option maxHeartbeats 2000000 in
theorem gi_entry {prog : Program} {w : World} {A : Around} {E : Value → Shared → Prop} {x : Str} {u tk : Tok} {Q : Fin → Shared → Prop} {h : Heap} {g : Array GenState} {d : Drawn} {t : Nat} {os : OsState} (hq : Q (.done (.ret (.ref h.objs.size))) ⟨h.push { cls := .type "method-wrapper", data := .fields #[.builtin "str.__getitem__", .str x u] }, g, d, t, os⟩) :
    wpAny (model prog w) A (Builtin.«object.__getattribute__» ⟨[.str x u, .str "__getitem__" tk], []⟩) Q E ⟨h, g, d, t, os⟩ := by
  have hT : (⟨h, g, d, t, os⟩ : Shared).TypeIs (.str x u) "str" := rfl
  have hT5 : (⟨h, g, d, t, os⟩ : Shared).TypeIs (.builtin "str.__getitem__") "wrapper_descriptor" := ty_str_gi
  have f4 := lk_str_gi
  have f5 := ty_str_gi
  have f6 := lk_wd_get
  have f7 := lk_wd_set
  have f8 := lk_wd_del
  have f9 := sub_str_gi
  repeat (any_goals (first | assumption | wp_step))
  refine codeAny_call_builtin slot_wd_get.plain entry_wd_get (slot_wd_get.check _ _ _ _ _ _ _ _ hT5 (args_wd_get _ _ _) ?_)
  repeat (any_goals (first | assumption | wp_step))

theorem gi_call {prog : Program} {w : World} {A : Around} {x : Str} {u tk : Tok} {R : Result → Shared → Prop} {h : Heap} {g : Array GenState} {d : Drawn} {t : Nat} {os : OsState} (hq : R (.ok (.ret (.ref h.objs.size))) ⟨h.push { cls := .type "method-wrapper", data := .fields #[.builtin "str.__getitem__", .str x u] }, g, d, t, os⟩) :
    codeAny (model prog w) A (.call (.builtin "object.__getattribute__") ⟨[.str x u, .str "__getitem__" tk], []⟩) R ⟨h, g, d, t, os⟩ :=
  codeAny_call_builtin PySem.F.slot_str_getattribute.plain PySem.F.entry_object_getattribute (PySem.F.slot_str_getattribute.check _ _ _ _ _ _ _ _ (show (⟨h, g, d, t, os⟩ : Shared).TypeIs (.str x u) "str" from rfl) (PySem.F.args_object_getattribute_2 _ _) (gi_entry hq))

theorem gi_by {prog : Program} {w : World} {A : Around} {E : Value → Shared → Prop} {x : Str} {u tk : Tok} {Q : Value → Shared → Prop} {h : Heap} {g : Array GenState} {d : Drawn} {t : Nat} {os : OsState} (hq : Q (.ref h.objs.size) ⟨h.push { cls := .type "method-wrapper", data := .fields #[.builtin "str.__getitem__", .str x u] }, g, d, t, os⟩) :
    wpAny (model prog w) A (getAttrBy (.str x u) (.str "__getitem__" tk) false) Q E ⟨h, g, d, t, os⟩ := by
  have hT : (⟨h, g, d, t, os⟩ : Shared).TypeIs (.str x u) "str" := rfl
  have f2 := PySem.F.slot_str_getattribute.lookup
  have f3 := PySem.F.slot_str_getattribute.bind (.str x u)
  repeat (any_goals (first | assumption | wp_step))
  refine gi_call ?_
  repeat (any_goals (first | assumption | wp_step))
set_option maxHeartbeats 3000000 in
theorem hasattr_gi {prog : Program} {w : World} {A : Around} {E : Value → Shared → Prop} {x : Str} {u tk : Tok} {Q : Value → Shared → Prop} {h : Heap} {g : Array GenState} {d : Drawn} {t : Nat} {os : OsState} (hq : Q (.bool true) ⟨h.push { cls := .type "method-wrapper", data := .fields #[.builtin "str.__getitem__", .str x u] }, g, d, t, os⟩) :
    wpAny (model prog w) A (call (.builtin "hasattr") [.str x u, .str "__getitem__" tk]) Q E ⟨h, g, d, t, os⟩ := by
  have hT : (⟨h, g, d, t, os⟩ : Shared).TypeIs (.str x u) "str" := rfl
  have f4 := lk_str_gi
  have f5 := PySem.F.slot_str_getattribute.lookup
  have f6 : withoutEnding? "str.__getitem__" "#data" = none := by decide +kernel
  refine Calls.call_function_entry kind_hasattr plain_hasattr entry_hasattr (args_hasattr _ _) ?_
  unfold Builtin.«hasattr» getAttrBy?
  repeat (any_goals (first | assumption | with_reducible apply gi_by | wp_step))
  exact ⟨_, rfl, hq⟩
end
section
open PySem PySem.W PyProof.Rows PySem.Calls PyProof.V PySem.Spec PySem.SeqAt

noncomputable def intsOf : List SV → Option (List Int)
  | [] => some []
  | .int i :: r => (intsOf r).map (i :: ·)
  | _ => none
theorem intsOf_map (l : List Int) : intsOf (l.map SV.int) = some l := by
  induction l with
  | nil => rfl
  | cons a r ih => simp [intsOf, ih]
theorem intsOf_eq : ∀ {vs : List SV} {l : List Int}, intsOf vs = some l → vs = l.map SV.int
  | [], l, h => by simp [intsOf] at h; subst h; rfl
  | a :: r, l, h => by
    cases a <;> simp only [intsOf] at h <;> try contradiction
    rw [Option.map_eq_some_iff] at h
    obtain ⟨m, hm, rfl⟩ := h
    rw [intsOf_eq hm]; rfl
theorem reps_ints : ∀ {vs : List Value} {l : List Int}, Reps vs (l.map SV.int) → IntsAre vs l
  | _, [], h => by cases h; exact .nil
  | _, a :: r, h => by
    cases h with
    | cons hv hr => cases hv; exact .cons _ _ (reps_ints hr)

inductive FLen (k : AV → Prop) : List AV → Prop
  | str {x : Str} (h : x.length ≤ 2 ^ 20 ∧ k (aI (x.length : Int))) : FLen k [.sc (.str x)]
  | list {tg : Tag} {vs : List SV} (h : vs.length ≤ 2 ^ 20 ∧ k (aI (vs.length : Int))) : FLen k [.list tg vs]
noncomputable def fLen : FSpec := fun as k => FLen k as
noncomputable def fRange : FSpec := fun as k => ∃ n : Int, as = [aI n] ∧ (0 ≤ n ∧ n ≤ 2 ^ 20 ∧ k (.rng n))
noncomputable def fMax : FSpec := fun as k => ∃ tg1 : Tag, ∃ vs : List SV, as = [.list tg1 vs] ∧ (∃ l, intsOf vs = some l ∧ l ≠ [] ∧ ∀ M, M ∈ l → (∀ a ∈ l, a ≤ M) → k (aI M))
noncomputable def fSum : FSpec := fun as k => ∃ tg1 : Tag, ∃ vs : List SV, as = [.list tg1 vs] ∧ (∃ l, intsOf vs = some l ∧ k (aI l.sum))
noncomputable def fIsi : FSpec := fun as k => ∃ i1 : Int, ∃ t : String, as = [aI i1, .ty t] ∧ (if t = "int" then k (aB true) else if t = "bool" then k (aB false) else False)
noncomputable def fHas : FSpec := fun as k => ∃ s1 : Str, ∃ y : Str, as = [.sc (.str s1), .sc (.str y)] ∧ (y = Str.ofString "__getitem__" ∧ k (aB true))
noncomputable def fDivmod : FSpec := fun as k => ∃ a : Int, ∃ b : Int, as = [aI a, aI b] ∧ (b ≠ 0 ∧ k (.tup [.int (a.fdiv b), .int (a.fmod b)]))
noncomputable def sgLen : Sig := ⟨0, false, fLen⟩
noncomputable def sgRange : Sig := ⟨0, false, fRange⟩
noncomputable def sgMax : Sig := ⟨0, false, fMax⟩
noncomputable def sgSum : Sig := ⟨0, false, fSum⟩
noncomputable def sgIsi : Sig := ⟨0, false, fIsi⟩
noncomputable def sgHas : Sig := ⟨0, false, fHas⟩
noncomputable def sgDivmod : Sig := ⟨0, false, fDivmod⟩

section
variable {W : Wd}
theorem AReps.one {h : Heap} {vs : List Value} {a : AV} (x : AReps h vs [a]) : ∃ v, vs = [v] ∧ ARep h v a := by
  cases x with
  | cons hv hr => cases hr; exact ⟨_, rfl, hv⟩
theorem AReps.two {h : Heap} {vs : List Value} {a b : AV} (x : AReps h vs [a, b]) : ∃ v w, vs = [v, w] ∧ ARep h v a ∧ ARep h w b := by
  cases x with
  | cons hv hr =>
    obtain ⟨w, rfl, hw⟩ := hr.one
    exact ⟨_, _, rfl, hv, hw⟩
theorem ex_keeps {s s' : Shared} (k : Keeps s s') : Ex W false s s' := k

theorem ok_len : FnOk W sgLen (.builtin "len") := by
  refine ⟨.inl ⟨_, rfl⟩, fun A s vs as k Q E hR G har hφ hQ => ?_⟩
  have hφ' : FLen k as := hφ
  cases hφ' with
  | str h =>
    obtain ⟨v, rfl, hv⟩ := har.one
    exact SRep.strC (P := fun v => wpAny _ _ (call _ [v] _) _ _ _) hv fun _ => P.len_str (by have := h.1; omega) (hQ _ _ (aI _) (ex_keeps ⟨_, _, rfl, fun _ _ e => e⟩) (SRep.int _ _) h.2)
  | list h =>
    obtain ⟨v, rfl, l, rfl, it, ⟨n, hp⟩, r⟩ := har.one
    refine PySem.Calls.call_len_list (items := it.toArray) ⟨_, hp, rfl, _, rfl⟩ ?_ ?_
    · rw [List.size_toArray, r.length]; have := h.1; omega
    · rw [show (it.toArray.size : Int) = _ by rw [List.size_toArray, r.length]]
      exact hQ _ _ (aI _) (ex_keeps ⟨_, _, rfl, fun _ _ e => e⟩) (SRep.int _ _) h.2
theorem ok_range : FnOk W sgRange (.type "range") := by
  refine ⟨.inr (.inl ⟨_, rfl⟩), fun A s vs as k Q E hR G har hφ hQ => ?_⟩
  have hφ' : fRange as k := hφ
  obtain ⟨n, rfl, hφ'⟩ := hφ'
  obtain ⟨v, rfl, hv⟩ := har.one
  cases hv
  refine call_range_1 (hQ _ _ (.rng _) (ex_keeps (push_keeps _ _)) ⟨hφ'.1, hφ'.2.1, _, _, _, _, rfl, IsRange.new _ _ _ _ _ _ _⟩ hφ'.2.2)
theorem ok_max : FnOk W sgMax (.builtin "max") := by
  refine ⟨.inl ⟨_, rfl⟩, fun A s vs as k Q E hR G har hφ hQ => ?_⟩
  have hφ' : fMax as k := hφ
  obtain ⟨tg1, vs, rfl, hφ'⟩ := hφ'
  obtain ⟨v, rfl, l, rfl, it, ⟨n, hp⟩, r⟩ := har.one
  obtain ⟨ns, hns, hne, hk⟩ := hφ'
  rw [intsOf_eq hns] at r
  have hi := reps_ints r
  obtain ⟨xs, e⟩ := hi.allInts.items
  have hn2 : ns = xs.toList.map (·.1) := by rw [← hi.numsOf, ← nums_intItems, ← e]
  have hsz : 0 < xs.size := by
    have h3 : 0 < ns.length := List.length_pos_iff.mpr hne
    rw [hn2, List.length_map, Array.length_toList] at h3; exact h3
  have hl : s.heap.IsList l it.toArray := ⟨_, hp, rfl, _, rfl⟩
  rw [e] at hl
  refine max_intList hR.hd hl hsz fun v h' tk hv hkeep => ?_
  obtain ⟨t, rfl⟩ := intItems_at hv
  obtain ⟨h1, h2⟩ := argBest_gt (numAt xs) (xs.size - 1)
  refine hQ _ _ (aI _) (ex_keeps ⟨h', tk, rfl, hkeep⟩) (SRep.int _ _) (hk _ ?_ fun a ha => ?_)
  · rw [hn2, numAt_eq]; exact getD_mem (by rw [List.length_map, Array.length_toList]; omega)
  · rw [hn2] at ha
    obtain ⟨j, hj, rfl⟩ := mem_getD ha
    rw [List.length_map, Array.length_toList] at hj
    rw [← numAt_eq]; exact h2 j (by omega)
theorem ok_sum : FnOk W sgSum (.builtin "sum") := by
  refine ⟨.inl ⟨_, rfl⟩, fun A s vs as k Q E hR G har hφ hQ => ?_⟩
  have hφ' : fSum as k := hφ
  obtain ⟨tg1, vs, rfl, hφ'⟩ := hφ'
  obtain ⟨v, rfl, l, rfl, it, ⟨n, hp⟩, r⟩ := har.one
  obtain ⟨ns, hns, hk⟩ := hφ'
  rw [intsOf_eq hns] at r
  have hi := reps_ints r
  obtain ⟨xs, e⟩ := hi.allInts.items
  have hn2 : ns = xs.toList.map (·.1) := by rw [← hi.numsOf, ← nums_intItems, ← e]
  have hl : s.heap.IsList l it.toArray := ⟨_, hp, rfl, _, rfl⟩
  rw [e] at hl
  refine sum_intListG hR.hd hl fun h' tk t' hkeep => ?_
  have e2 : preSum (numAt xs) xs.size = ns.sum := by
    rw [preSum_eq, List.take_of_length_le (by simp), hn2]
  rw [e2]
  exact hQ _ _ (aI _) (ex_keeps ⟨h', tk, rfl, hkeep⟩) (SRep.int _ _) hk
theorem ok_isi : FnOk W sgIsi (.builtin "isinstance") := by
  refine ⟨.inl ⟨_, rfl⟩, fun A s vs as k Q E hR G har hφ hQ => ?_⟩
  have hφ' : fIsi as k := hφ
  obtain ⟨i1, t, rfl, hφ'⟩ := hφ'
  obtain ⟨v, w, rfl, hv, hw⟩ := har.two
  cases hv
  have hw' : w = .type _ := hw
  subst hw'
  split at hφ'
  · rename_i e; subst e
    exact PySem.IsiPair.int_int (hQ _ _ (aB true) (ex_keeps (Keeps.refl' s)) (SRep.bool _) hφ')
  · split at hφ'
    · rename_i e; subst e
      exact PySem.IsiPair.int_bool (hQ _ _ (aB false) (ex_keeps (tok_keeps _)) (SRep.bool _) hφ')
    · exact hφ'.elim
theorem ok_divmod : FnOk W sgDivmod (.builtin "divmod") := by
  refine ⟨.inl ⟨_, rfl⟩, fun A s vs as k Q E hR G har hφ hQ => ?_⟩
  have hφ' : fDivmod as k := hφ
  obtain ⟨a, b, rfl, hφ'⟩ := hφ'
  obtain ⟨v, w, rfl, hv, hw⟩ := har.two
  cases hv; cases hw
  refine PyProof.Rows.divmod_int hφ'.1 (hQ _ _ (.tup _) (ex_keeps (push_keeps _ _)) ⟨_, rfl, [_, _], ⟨_, Heap.get?_push_size _ rfl, rfl, _, rfl⟩, .cons (SRep.int _ _) (.cons (SRep.int _ _) .nil)⟩ hφ'.2) (.inr (pylong G hR))
end
end
section
open PySem PySem.W PyProof.Rows PySem.Calls PyProof.V PySem.Spec PySem.SeqAt

section
variable {S : Nat → Sig} {R n N : Nat} {u : Bool} {es : Scope} {ρ : Loc} {k : AV → Prop} {on : Str}
theorem ev_int {i : Int} {a : Nat} {p : Pos} (h : k (aI i)) : evE S R (n + 1) u es ρ (.Constant (.int i) a p) k := EvS.int h
theorem ev_str {x : Str} {a : Nat} {p : Pos} (h : k (.sc (.str x))) : evE S R (n + 1) u es ρ (.Constant (.str x) a p) k := EvS.str h
theorem ev_bool {x : Bool} {a : Nat} {p : Pos} (h : k (aB x)) : evE S R (n + 1) u es ρ (.Constant (.bool x) a p) k := EvS.bool h
theorem ev_none {a : Nat} {p : Pos} (h : k (.sc .none)) : evE S R (n + 1) u es ρ (.Constant .none a p) k := EvS.none h
theorem ev_name {x : Str} {a : AV} {p : Pos} (hl : look x ρ = some a) (h : k a) : evE S R (n + 1) u es ρ (.Name x p) k := EvS.name hl h
theorem ev_bin {l r : Expr} {op : Operator} {p : Pos} (h : evE S R n u es ρ l fun a => evE S R n u es ρ r fun b => binE op a b k) : evE S R (n + 1) u es ρ (.BinOp l op r p) k := EvS.bin h
theorem ev_usub {x : Expr} {p : Pos} (h : evE S R n u es ρ x fun a => negE a k) : evE S R (n + 1) u es ρ (.UnaryOp .USub x p) k := EvS.usub h
theorem ev_if {t b o : Expr} {p : Pos} (h : tsE S R n u es ρ t fun c => (c = true → evE S R n u es ρ b k) ∧ (c = false → evE S R n u es ρ o k)) : evE S R (n + 1) u es ρ (.IfExp t b o p) k := EvS.ife h
theorem ev_cmp {l r : Expr} {op : CmpOp} {p : Pos} (hm : behindInMarks op r = false) (h : evE S R n u es ρ l fun a => evE S R n u es ρ r fun b => cmpE op a b fun c => k (aB c)) : evE S R (n + 1) u es ρ (.Compare l [op] [r] p) k := EvS.cmp hm h
theorem ev_slice {v : Expr} {lo hi st : Option Expr} {p q : Pos} (h : evE S R n u es ρ v fun a => partE S R n u es ρ lo fun i => partE S R n u es ρ hi fun j => partE S R n u es ρ st fun t => sliceE a i j t k) : evE S R (n + 1) u es ρ (.Subscript v (.Slice lo hi st q) p) k := EvS.slice h
theorem ev_sub {v i : Expr} {p : Pos} (hn : notSlice i = true) (h : evE S R n u es ρ v fun a => evE S R n u es ρ i fun b => subE a b k) : evE S R (n + 1) u es ρ (.Subscript v i p) k := EvS.sub hn h
theorem ev_call {f : Str} {p q : Pos} {a0 : Expr} {args : List Expr} {key : Nat} (hn : noStar (a0 :: args) = true) (hl : look f ρ = some (.fn key)) (h1 : (S key).lv ≤ R) (h2 : (S key).ub = true → u = true)
    (h : evs (evE S R (n + 1) u es ρ) (a0 :: args) fun as => (S key).φ as k) : evE S R (n + 1 + 1) u es ρ (.Call (.Name f p) (a0 :: args) [] q) k := EvS.call hn (EvS.name hl (.fn ⟨h1, h2, h⟩))
theorem ev_rev {p q : Pos} {a0 : Expr} (hn : noStar [a0] = true) (hl : look (Str.ofString "reversed") ρ = some (.ty "reversed")) (h : evE S R (n + 1) u es ρ a0 fun b => revE b k) : evE S R (n + 1 + 1) u es ρ (.Call (.Name (Str.ofString "reversed") p) [a0] [] q) k := EvS.call hn (EvS.name hl (.ty ⟨rfl, h⟩))
theorem ev_call1 {f : Expr → (AV → Prop) → Prop} {e : Expr} {r : List Expr} {k : List AV → Prop} (h : f e fun a => evs f r fun as => k (a :: as)) : evs f (e :: r) k := h
theorem ev_call0 {f : Expr → (AV → Prop) → Prop} {k : List AV → Prop} (h : k []) : evs f [] k := h

theorem bi_add {x y : Int} (h : k (aI (x + y))) : binE .Add (aI x) (aI y) k := BinE.add h
theorem bi_sub {x y : Int} (h : k (aI (x - y))) : binE .Sub (aI x) (aI y) k := BinE.sub h
theorem bi_subB {x y : Bool} (h : k (aI (b2i x - b2i y))) : binE .Sub (aB x) (aB y) k := BinE.subB h
theorem bi_mul {x y : Int} (h0 : IntMulOk x y) (h : k (aI (x * y))) : binE .Mult (aI x) (aI y) k := BinE.mul h0 h
theorem bi_fd {x y : Int} (h0 : y ≠ 0) (h : k (aI (x.fdiv y))) : binE .FloorDiv (aI x) (aI y) k := BinE.fd h0 h
theorem bi_mod {x y : Int} (h0 : y ≠ 0) (h : k (aI (x.fmod y))) : binE .Mod (aI x) (aI y) k := BinE.mod h0 h
theorem bi_pow {x y : Int} (h0 : 0 ≤ y) (h1 : (Builtin.Int.intBits x : Int) * y ≤ 2 ^ 27) (h : k (aI (x ^ y.toNat))) : binE .Pow (aI x) (aI y) k := BinE.pow h0 h1 h
theorem bi_shl {x y : Int} (h0 : 0 ≤ y) (h1 : (Builtin.Int.intBits x : Int) + y ≤ 2 ^ 27) (h : k (aI (x * 2 ^ y.toNat))) : binE .LShift (aI x) (aI y) k := BinE.shl h0 h1 h
theorem bi_shr {x y : Int} (h0 : 0 ≤ y) (h : k (aI (x.fdiv (2 ^ y.toNat)))) : binE .RShift (aI x) (aI y) k := BinE.shr h0 h
theorem bi_and {x y : Int} (h : k (aI (Builtin.bitAnd x y))) : binE .BitAnd (aI x) (aI y) k := BinE.and h
theorem bi_or {x y : Int} (h : k (aI (Builtin.bitOr x y))) : binE .BitOr (aI x) (aI y) k := BinE.or h
theorem bi_xor {x y : Int} (h : k (aI (Builtin.bitXor x y))) : binE .BitXor (aI x) (aI y) k := BinE.xor h
theorem bi_cat {x y : Str} (h0 : x.length + y.length ≤ sizeLine) (h : k (aS (cs x ++ cs y))) : binE .Add (.sc (.str x)) (.sc (.str y)) k := BinE.cat h0 h
theorem bi_rep {x : Str} {m : Int} (h0 : 1 ≤ m) (h1 : (x.length : Int) * m ≤ 2 ^ 20) (h2 : m ≤ 2 ^ 20) (h : k (aS ((List.replicate m.toNat (cs x)).flatten))) : binE .Mult (.sc (.str x)) (aI m) k := BinE.rep h0 h1 h2 h
theorem bi_lcat {t t' : Tag} {xs ys : List SV} (h0 : xs.length + ys.length ≤ 2 ^ 20) (h : k (.list .tmp (xs ++ ys))) : binE .Add (.list t xs) (.list t' ys) k := BinE.lcat h0 h
theorem bi_lrep {t : Tag} {x : SV} {m : Int} (h0 : 0 ≤ m) (h1 : m ≤ 2 ^ 20) (h : k (.list .tmp (List.replicate m.toNat x))) : binE .Mult (.list t [x]) (aI m) k := BinE.lrep h0 h1 h
theorem ne_int {x : Int} (h : k (aI (-x))) : negE (aI x) k := NegE.int h
theorem au_add {x y : Int} (h : k (aI (x + y))) : augE .Add (aI x) (aI y) k := AugE.add h
theorem au_sub {x y : Int} (h : k (aI (x - y))) : augE .Sub (aI x) (aI y) k := AugE.sub h
theorem au_fd {x y : Int} (h0 : y ≠ 0) (h : k (aI (x.fdiv y))) : augE .FloorDiv (aI x) (aI y) k := AugE.fd h0 h
theorem au_shl {x y : Int} (h0 : 0 ≤ y) (h1 : (Builtin.Int.intBits x : Int) + y ≤ 2 ^ 27) (h : k (aI (x * 2 ^ y.toNat))) : augE .LShift (aI x) (aI y) k := AugE.shl h0 h1 h
theorem au_shr {x y : Int} (h0 : 0 ≤ y) (h : k (aI (x.fdiv (2 ^ y.toNat)))) : augE .RShift (aI x) (aI y) k := AugE.shr h0 h
theorem su_int {t : Tag} {l : List Int} {i : Int} (h0 : 0 ≤ i) (h1 : i < l.length) (h2 : l.length ≤ 2 ^ 20) (h : k (aI (l.getD i.toNat 0))) : subE (.list t (l.map SV.int)) (aI i) k := by
  refine SubE.list ⟨h0, by omega, .int (l.getD i.toNat 0), ?_, h⟩
  have : i.toNat < l.length := by omega
  simp [List.getElem?_eq_getElem this, List.getD]
theorem su_str {t : Tag} {l : List (List Nat)} {i : Int} (h0 : 0 ≤ i) (h1 : i < l.length) (h2 : l.length ≤ 2 ^ 20) (h : k (aS (l.getD i.toNat []))) : subE (.list t (l.map fun w => SV.str (mkS w))) (aI i) k := by
  refine SubE.list ⟨h0, by omega, .str (mkS (l.getD i.toNat [])), ?_, h⟩
  have : i.toNat < l.length := by omega
  simp [List.getElem?_eq_getElem this, List.getD]
theorem su_chr {l : List Nat} {i : Int} (h0 : 0 ≤ i) (h1 : i < l.length) (h2 : l.length ≤ 2 ^ 20) (h : k (aS [l.getD i.toNat 0])) : subE (aS l) (aI i) k := by
  refine SubE.str ⟨h0, by omega, l.getD i.toNat 0, ?_, h⟩
  have : i.toNat < l.length := by omega
  simp [List.getElem?_eq_getElem this, List.getD]
theorem pa_none {k : Option Int → Prop} (h : k none) : partE S R (n + 1) u es ρ none k := PtS.none h
theorem pa_some {e : Expr} {k : Option Int → Prop} (h : evE S R n u es ρ e fun a => ∃ i, a = aI i ∧ k (some i)) : partE S R (n + 1) u es ρ (some e) k := PtS.some h
theorem ex_int {i : Int} {P : Int → Prop} (h : P i) : ∃ j, (aI i : AV) = aI j ∧ P j := ⟨i, rfl, h⟩
theorem ev_list {el : List Expr} {p : Pos} (hn : noStar el = true) (h : evs (evE S R n u es ρ) el fun as => ∃ vs, scs as = some vs ∧ vs.length ≤ 2 ^ 20 ∧ k (.list .tmp vs)) : evE S R (n + 1) u es ρ (.List el p) k := EvS.list hn h
theorem ev_tup {el : List Expr} {p : Pos} {c : Nat} (hn : noStar el = true) (h : evs (evE S R n u es ρ) el fun as => ∃ vs, scs as = some vs ∧ vs.length ≤ 2 ^ 20 ∧ k (.tup vs)) : evE S R (n + 1) u es ρ (.Tuple el c p) k := EvS.tup hn h
theorem ex_scs {as : List AV} {vs : List SV} {P : List SV → Prop} (hs : scs as = some vs) (h : P vs) : ∃ vs, scs as = some vs ∧ P vs := ⟨vs, hs, h⟩
theorem ev_and {x y : Expr} {p : Pos} (h : evE S R n u es ρ x fun a => ∃ b, a = aB b ∧ (b = true → evE S R n u es ρ y k) ∧ (b = false → k (aB false))) : evE S R (n + 1) u es ρ (.BoolOp .And [x, y] p) k := EvS.and h
theorem ex_bool {b : Bool} {P : Bool → Prop} (h : P b) : ∃ c, (aB b : AV) = aB c ∧ P c := ⟨b, rfl, h⟩
theorem ev_meth {o : Expr} {nm : String} {ap pos : Pos} {args : List Expr} (hn : noStar args = true) (hl : args.length ≤ 1) (ho : ∀ f p q, o ≠ .Call (.Name f p) [] [] q) (hline : (ap.endLine == pos.line) = true)
    (h : evE S R n u es ρ o fun a => methOk a nm args.length = true ∧ evs (evE S R n u es ρ) args fun as => methE a nm as k) : evE S R (n + 1) u es ρ (.Call (.Attribute o (Str.ofString nm) ap) args [] pos) k := EvS.meth hn hl ho hline h
theorem me_bits {f : Expr → (AV → Prop) → Prop} {x : Int} (h : k (aI (Builtin.Int.intBits x : Nat))) : methOk (aI x) "bit_length" ([] : List Expr).length = true ∧ evs f [] fun as => methE (aI x) "bit_length" as k := ⟨rfl, h⟩
theorem me_join {f : Expr → (AV → Prop) → Prop} {x : Str} {e : Expr} (hx : isNilS (.sc (.str x)) = true) (h : f e fun b => joinE (.sc (.str x)) [b] k) : methOk (.sc (.str x)) "join" [e].length = true ∧ evs f [e] fun as => methE (.sc (.str x)) "join" as k := by
  refine ⟨by simp [methOk, hx], ?_⟩
  simpa [evs, methE] using h
theorem me_index {f : Expr → (AV → Prop) → Prop} {x : Str} {e : Expr} (h : f e fun b => indexE (.sc (.str x)) [b] k) : methOk (.sc (.str x)) "index" [e].length = true ∧ evs f [e] fun as => methE (.sc (.str x)) "index" as k := by
  refine ⟨by simp [methOk, isStrA], ?_⟩
  simpa [evs, methE] using h
theorem strsOf_map (ws : List (List Nat)) : strsOf (ws.map fun w => SV.str (mkS w)) = some (ws.map mkS) := by
  induction ws with
  | nil => rfl
  | cons a r ih => simp [strsOf, ih]
theorem sumLen_map (ws : List (List Nat)) : sumLen (ws.map mkS) = ws.flatten.length := by
  induction ws with
  | nil => rfl
  | cons a r ih => simp [sumLen, ih, len_mkS]
theorem flat_map (ws : List (List Nat)) : (ws.map mkS).flatMap cs = ws.flatten := by
  induction ws with
  | nil => rfl
  | cons a r ih => rw [List.map_cons, List.flatMap_cons, ih, List.flatten_cons, cs_mkS]
theorem jo_map {x : Str} {t : Tag} {ws : List (List Nat)} (hx : isNilS (.sc (.str x)) = true) (h1 : ws.flatten.length ≤ 2 ^ 20) (h2 : ws.length ≤ 2 ^ 20) (h : k (aS ws.flatten)) : joinE (.sc (.str x)) [.list t (ws.map fun w => SV.str (mkS w))] k := by
  refine ⟨by simpa [isNilS] using hx, ws.map mkS, strsOf_map ws, by rw [sumLen_map]; exact h1, by simpa using h2, ?_⟩
  rw [flat_map]; exact h

theorem cm_lt {x y : Int} {k : Bool → Prop} (h : k (decide (x < y))) : cmpE .Lt (aI x) (aI y) k := CmpE.lt h
theorem cm_le {x y : Int} {k : Bool → Prop} (h : k (decide (x ≤ y))) : cmpE .LtE (aI x) (aI y) k := CmpE.le h
theorem cm_gt {x y : Int} {k : Bool → Prop} (h : k (decide (y < x))) : cmpE .Gt (aI x) (aI y) k := CmpE.gt h
theorem cm_ge {x y : Int} {k : Bool → Prop} (h : k (decide (y ≤ x))) : cmpE .GtE (aI x) (aI y) k := CmpE.ge h
theorem cm_eq {x y : Int} {k : Bool → Prop} (h : k (decide (x = y))) : cmpE .Eq (aI x) (aI y) k := CmpE.eq h
theorem cm_ne {x y : Int} {k : Bool → Prop} (h : k (decide (x ≠ y))) : cmpE .NotEq (aI x) (aI y) k := CmpE.ne h
theorem cm_ltS {x y : Str} {k : Bool → Prop} (h : k (ltS (cs x) (cs y))) : cmpE .Lt (.sc (.str x)) (.sc (.str y)) k := CmpE.ltS h
theorem cm_gtS {x y : Str} {k : Bool → Prop} (h : k (ltS (cs y) (cs x))) : cmpE .Gt (.sc (.str x)) (.sc (.str y)) k := CmpE.gtS h
theorem cm_eqL {t t' : Tag} {xs ys : List SV} {k : Bool → Prop} (h0 : ((isInts xs && isInts ys) || (isStrs xs && isStrs ys)) = true) (h1 : xs.length ≤ 2 ^ 20) (h2 : ys.length ≤ 2 ^ 20) (h : k (decide (xs = ys))) : cmpE .Eq (.list t xs) (.list t' ys) k := CmpE.eqL h0 h1 h2 h
theorem cm_neL {t t' : Tag} {xs ys : List SV} {k : Bool → Prop} (h0 : ((isInts xs && isInts ys) || (isStrs xs && isStrs ys)) = true) (h1 : xs.length ≤ 2 ^ 20) (h2 : ys.length ≤ 2 ^ 20) (h : k (decide (xs ≠ ys))) : cmpE .NotEq (.list t xs) (.list t' ys) k := CmpE.neL h0 h1 h2 h
theorem cm_neT {a b c d : Int} {k : Bool → Prop} (h : k (decide ¬(a = c ∧ b = d))) : cmpE .NotEq (.tup [.int a, .int b]) (.tup [.int c, .int d]) k := CmpE.neT h
theorem tr_bool {b : Bool} {k : Bool → Prop} (h : k b) : truE (aB b) k := TruE.bool h
theorem tr_int {i : Int} {k : Bool → Prop} (h : k (decide (i ≠ 0))) : truE (aI i) k := TruE.int h
theorem tr_list {t : Tag} {vs : List SV} {k : Bool → Prop} (h0 : vs.length ≤ 2 ^ 20) (h : k (decide (vs ≠ []))) : truE (.list t vs) k := TruE.list h0 h
theorem re_list {t : Tag} {vs : List SV} (h0 : vs.length ≤ 2 ^ 20) (h : k (.rev t vs)) : revE (.list t vs) k := ⟨h0, h⟩

section
variable {k : Bool → Prop}
theorem ts_cmp {l r : Expr} {op : CmpOp} {p : Pos} (hm : behindInMarks op r = false) (h : evE S R n u es ρ l fun a => evE S R n u es ρ r fun b => cmpE op a b k) : tsE S R (n + 1) u es ρ (.Compare l [op] [r] p) k := TsS.cmp hm h
theorem ts_chain {l r r' : Expr} {op op' : CmpOp} {p : Pos} (hm : behindInMarks op r = false) (hm' : behindInMarks op' r' = false) (h : evE S R n u es ρ l fun a => evE S R n u es ρ r fun b => cmpE op a b fun c =>
        (c = true → evE S R n u es ρ r' fun b' => cmpE op' b b' k) ∧ (c = false → k false)) : tsE S R (n + 1) u es ρ (.Compare l [op, op'] [r, r'] p) k := TsS.chain hm hm' h
theorem ts_and {x y : Expr} {p : Pos} (h : tsE S R n u es ρ x fun c => (c = true → tsE S R n u es ρ y k) ∧ (c = false → k false)) : tsE S R (n + 1) u es ρ (.BoolOp .And [x, y] p) k := TsS.and h
theorem ts_or {x y : Expr} {p : Pos} (h : tsE S R n u es ρ x fun c => (c = true → k true) ∧ (c = false → tsE S R n u es ρ y k)) : tsE S R (n + 1) u es ρ (.BoolOp .Or [x, y] p) k := TsS.or h
theorem ts_not {x : Expr} {p : Pos} (h : tsE S R n u es ρ x fun c => k (!c)) : tsE S R (n + 1) u es ρ (.UnaryOp .Not x p) k := TsS.not h
theorem ts_name {x : Str} {p : Pos} (h : evE S R n u es ρ (.Name x p) fun a => truE a k) : tsE S R (n + 1) u es ρ (.Name x p) k := TsS.name h
theorem ts_call {f : Expr} {a : List Expr} {kw : List Keyword} {p : Pos} (h : evE S R n u es ρ (.Call f a kw p) fun a => truE a k) : tsE S R (n + 1) u es ρ (.Call f a kw p) k := TsS.call h
end
theorem brT {A B : Prop} (h : A) : (true = true → A) ∧ (true = false → B) := ⟨fun _ => h, nofun⟩
theorem brF {A B : Prop} (h : B) : (false = true → A) ∧ (false = false → B) := ⟨nofun, fun _ => h⟩
theorem brN {b : Bool} {A B : Prop} (h : (b = true → B) ∧ (b = false → A)) : ((!b) = true → A) ∧ ((!b) = false → B) := by
  cases b
  · exact ⟨fun _ => h.2 rfl, nofun⟩
  · exact ⟨nofun, fun _ => h.1 rfl⟩
theorem br {P : Prop} [Decidable P] {A B : Prop} (h1 : P → A) (h2 : ¬P → B) : (decide P = true → A) ∧ (decide P = false → B) := ⟨fun q => h1 (of_decide_eq_true q), fun q => h2 (of_decide_eq_false q)⟩

section
variable {kn : Loc → Prop} {kr : AV → Prop}
theorem xs_nil {f : Loc → Stmt → (Loc → Prop) → (AV → Prop) → Prop} (h : kn ρ) : exs f [] ρ kn kr := h
theorem xs_cons {f : Loc → Stmt → (Loc → Prop) → (AV → Prop) → Prop} {st : Stmt} {r : List Stmt} (h : f ρ st (fun ρ' => exs f r ρ' kn kr) kr) : exs f (st :: r) ρ kn kr := h
theorem ex_as {x : Str} {px p : Pos} {e : Expr} (hx : nmOk es x = true) (hc : isComp e = false) (h : evE S R N u es ρ e fun a => stOne on x ρ a fun a' => kn (setv x a' ρ)) : exE S R u N on es (n + 1) ρ (.Assign [.Name x px] e p) kn kr := ExS.as hx hc h
theorem so_sc {x : Str} {v : SV} (h : k (.sc v)) : stOne on x ρ (.sc v) k := h
theorem so_fn {x : Str} {v : Nat} (h : k (.fn v)) : stOne on x ρ (.fn v) k := h
theorem so_shr {x : Str} {vs : List SV} (h : k (.list .shr vs)) : stOne on x ρ (.list .shr vs) k := h
theorem so_own {x : Str} {vs : List SV} (hx : x = on) (hn : noOwn ρ = true) (h : k (.list .own vs)) : stOne on x ρ (.list .tmp vs) k := by
  simp only [stOne, if_pos hx]; exact ⟨hn, h⟩
theorem so_tmp {x : Str} {vs : List SV} (hx : x ≠ on) (h : k (.list .shr vs)) : stOne on x ρ (.list .tmp vs) k := by
  simp only [stOne, if_neg hx]; exact h
theorem ex_tup {ts el : List Expr} {xs : List Str} {c c' : Nat} {p p' q : Pos} (h1 : nms ts = some xs) (h2 : allNm es xs = true) (h3 : distinctN xs = true) (h4 : noStar el = true) (h5 : alone el = false) (h6 : el.length = ts.length)
    (h : evs (evE S R N u es ρ) el fun as => as.length ≤ 2 ^ 20 ∧ stMany on ρ xs as fun bs => kn (setMany xs bs ρ)) : exE S R u N on es (n + 1) ρ (.Assign [.Tuple ts c p] (.Tuple el c' p') q) kn kr := ExS.tup xs h1 h2 h3 h4 h5 h6 h
theorem sm_nil {k : List AV → Prop} (h : k []) : stMany on ρ [] [] k := h
theorem sm_sc {x : Str} {xs : List Str} {v : SV} {as : List AV} {k : List AV → Prop} (h : stMany on ρ xs as fun bs => k (.sc v :: bs)) : stMany on ρ (x :: xs) (.sc v :: as) k := h
theorem sm_own {x : Str} {xs : List Str} {vs : List SV} {as : List AV} {k : List AV → Prop} (h0 : x = on) (h1 : noOwn ρ = true) (h2 : as.length = xs.length) (h3 : (scs as).isSome = true) (h : k (.list .own vs :: as)) : stMany on ρ (x :: xs) (.list .tmp vs :: as) k := ⟨h0, h1, h2, h3, h⟩
theorem tu_tup {vs : List SV} {k : List SV → Prop} (h : k vs) : tupK (.tup vs) k := TupK.tup h
theorem ex_untup {ts : List Expr} {e : Expr} {xs : List Str} {c : Nat} {p q : Pos} (h1 : nms ts = some xs) (h2 : allNm es xs = true) (h3 : isTupE e = false) (h4 : isComp e = false)
    (h : evE S R N u es ρ e fun a => tupK a fun vs => vs.length = xs.length ∧ kn (setMany xs (vs.map .sc) ρ)) : exE S R u N on es (n + 1) ρ (.Assign [.Tuple ts c p] e q) kn kr := ExS.untup xs h1 h2 h3 h4 h
theorem sk_sc {v : SV} {k : SV → Prop} (h : k v) : scK1 (.sc v) k := ScK.sc h
theorem ik_sc {v : Int} {k : Int → Prop} (h : k v) : inK1 (aI v) k := InK.int h
theorem ex_own {x : Str} {vs : List SV} {P : List SV → Prop} (hl : look x ρ = some (.list .own vs)) (h : P vs) : ∃ vs, look x ρ = some (.list .own vs) ∧ P vs := ⟨vs, hl, h⟩
theorem ex_put {x : Str} {px sp p : Pos} {i e : Expr} (h1 : isComp e = false) (h2 : noOwnBut x ρ = true) (h : evE S R N u es ρ e fun a => scK1 a fun v => ∃ vs, look x ρ = some (.list .own vs) ∧ evE S R N u es ρ i fun b => inK1 b fun j =>
          0 ≤ j ∧ j < vs.length ∧ vs.length ≤ 2 ^ 20 ∧ kn (setv x (.list .own (vs.set j.toNat v)) ρ)) : exE S R u N on es (n + 1) ρ (.Assign [.Subscript (.Name x px) i sp] e p) kn kr := ExS.put h1 h2 h
theorem ex_aug {x : Str} {px p : Pos} {e : Expr} {op : Operator} {a : AV} (h1 : nmOk es x = true) (h2 : kindIn es.names x .globalImplicit = false) (hl : look x ρ = some a) (h : evE S R N u es ρ e fun b => augE op a b fun c => kn (setv x c ρ)) :
    exE S R u N on es (n + 1) ρ (.AugAssign (.Name x px) op e p) kn kr := ExS.aug h1 h2 hl h
theorem ex_if {t : Expr} {b o : List Stmt} {p : Pos} (h : tsE S R N u es ρ t fun c => (c = true → exs (exE S R u N on es n) b ρ kn kr) ∧ (c = false → exs (exE S R u N on es n) o ρ kn kr)) : exE S R u N on es (n + 1) ρ (.If t b o p) kn kr := ExS.ife h
theorem ex_ret {e : Expr} {p : Pos} (h : evE S R N u es ρ e kr) : exE S R u N on es (n + 1) ρ (.Return (some e) p) kn kr := ExS.ret h
theorem ex_pass {p : Pos} (h : kn ρ) : exE S R u N on es (n + 1) ρ (.Pass p) kn kr := ExS.pass h
theorem ex_try {b o : List Stmt} {h0 : ExceptHandler} {hs : List ExceptHandler} {p : Pos} (h : exs (exE S R u N on es n) b ρ (fun ρ' => exs (exE S R u N on es n) o ρ' kn kr) kr) : exE S R u N on es (n + 1) ρ (.Try b (h0 :: hs) o [] p) kn kr := ExS.try h
theorem ex_app {x : Str} {px ap cp p : Pos} {e : Expr} (h1 : (ap.endLine == cp.line) = true) (h2 : noStar [e] = true) (h3 : noOwnBut x ρ = true) {vs : List SV} (hl : look x ρ = some (.list .own vs))
    (h : evE S R N u es ρ e fun a => scK1 a fun v => vs.length ≤ 2 ^ 20 ∧ kn (setv x (.list .own (vs ++ [v])) ρ)) : exE S R u N on es (n + 1) ρ (.Expr (.Call (.Attribute (.Name x px) (Str.ofString "append") ap) [e] [] cp) p) kn kr := ExS.app h1 h2 h3 hl h
theorem ex_revS {x : Str} {px ap cp p : Pos} (h1 : (ap.endLine == cp.line) = true) (h3 : noOwnBut x ρ = true) {vs : List SV} (hl : look x ρ = some (.list .own vs)) (h0 : vs.length ≤ 2 ^ 20)
    (h : kn (setv x (.list .own vs.reverse) ρ)) : exE S R u N on es (n + 1) ρ (.Expr (.Call (.Attribute (.Name x px) (Str.ofString "reverse") ap) [] [] cp) p) kn kr := ExS.rev h1 h3 hl h0 h
theorem ex_forU {x : Str} {px lp p : Pos} {el : List Expr} {body : List Stmt} (h1 : nmOk es x = true) (h2 : ∀ y env, foldedSetIterable (.List el lp) env y = pure y) (h3 : noStar el = true)
    (h : evs (evE S R N u es ρ) el fun as => as.length ≤ 2 ^ 20 ∧ as.all itemOk = true ∧ unr (fun ρ k => exs (exE S R u N on es n) body ρ k kr) x as ρ kn) : exE S R u N on es (n + 1) ρ (.For (.Name x px) (.List el lp) body [] p) kn kr := ExS.forU h1 h2 h3 h
theorem un_nil {f : Loc → (Loc → Prop) → Prop} {x : Str} (h : kn ρ) : unr f x [] ρ kn := h
theorem un_cons {f : Loc → (Loc → Prop) → Prop} {x : Str} {a : AV} {as : List AV} (h : f (setv x a ρ) fun ρ' => unr f x as ρ' kn) : unr f x (a :: as) ρ kn := h
noncomputable def isListE (e : Expr) : Bool := Nat.beq e.ctorIdx 24
theorem ex_for {x : Str} {px p : Pos} {iter : Expr} {body : List Stmt} (h0 : isListE iter = false) (h1 : nmOk es x = true) (h2 : ∀ y env, foldedSetIterable iter env y = pure y)
    (h : evE S R N u es ρ iter fun it => isOwn it = false ∧ ∃ vs, iterV it = some vs ∧ vs.length ≤ 2 ^ 20 ∧
        ∃ I : Nat → Loc → Prop, I 0 (dropv x ρ) ∧ (∀ i v ρ', vs[i]? = some v → I i ρ' → exs (exE S R u N on es n) body ((x, .sc v) :: ρ') (fun ρ'' => I (i + 1) (keepv (names (dropv x ρ)) ρ'')) kr) ∧ ∀ ρ', I vs.length ρ' → kn ρ') :
    exE S R u N on es (n + 1) ρ (.For (.Name x px) iter body [] p) kn kr := ExS.for h1 h2 h
/-- a loop over a list's ints by its word -/
theorem fo_go {x : Str} {body : List Stmt} {it : AV} {vs : List SV} (I : Nat → Loc → Prop) (h0 : isOwn it = false) (hv : iterV it = some vs) (hl : vs.length ≤ 2 ^ 20) (hs : I 0 (dropv x ρ))
    (ht : ∀ i v ρ', vs[i]? = some v → I i ρ' → exs (exE S R u N on es n) body ((x, .sc v) :: ρ') (fun ρ'' => I (i + 1) (keepv (names (dropv x ρ)) ρ'')) kr) (he : ∀ ρ', I vs.length ρ' → kn ρ') :
    isOwn it = false ∧ ∃ vs, iterV it = some vs ∧ vs.length ≤ 2 ^ 20 ∧
        ∃ I : Nat → Loc → Prop, I 0 (dropv x ρ) ∧ (∀ i v ρ', vs[i]? = some v → I i ρ' → exs (exE S R u N on es n) body ((x, .sc v) :: ρ') (fun ρ'' => I (i + 1) (keepv (names (dropv x ρ)) ρ'')) kr) ∧ ∀ ρ', I vs.length ρ' → kn ρ' :=
  ⟨h0, vs, hv, hl, I, hs, ht, he⟩
theorem ex_while {t : Expr} {body : List Stmt} {p : Pos} (I : Nat → Loc → Prop) (h0 : ∃ m, I m ρ)
    (h : ∀ m ρ', I m ρ' → tsE S R N u es ρ' t fun c => (c = true → exs (exE S R u N on es n) body ρ' (fun ρ'' => ∃ m', m' < m ∧ I m' (keepv (names ρ) ρ'')) kr) ∧ (c = false → kn ρ')) : exE S R u N on es (n + 1) ρ (.While t body [] p) kn kr := ExS.while I h0 h
theorem ex_comp {x t : Str} {px pt cp p : Pos} {elt iter : Expr} {sc : Scope} (h1 : ∀ y env, foldedSetIterable iter env y = pure y) (h2 : compOk es sc t = true) (h3 : nmOk es x = true) (h4 : swB es sc x px.line cp.line = true) (h5 : x ≠ on) (g : SV → SV)
    (h : evE S R N u es ρ iter fun it => ∃ vs, iterV it = some vs ∧ vs.length ≤ 2 ^ 20 ∧
          (∀ v ∈ vs, evE S R N false noScope ((t, .sc v) :: cρ es sc ρ) elt fun a => a = .sc (g v)) ∧ kn (setv x (.list .shr (vs.map g)) ρ)) : exE S R u N on es (n + 1) ρ (.Assign [.Name x px] (.ListComp elt [⟨.Name t pt, iter, [], 0⟩] sc cp) p) kn kr := ExS.comp h1 h2 h3 h4 h5 g h
theorem ev_comp {t : Str} {pt cp : Pos} {elt iter : Expr} {sc : Scope} (h1 : ∀ y env, foldedSetIterable iter env y = pure y) (h2 : compOk es sc t = true) (g : SV → SV)
    (h : evE S R n u es ρ iter fun it => ∃ vs, iterV it = some vs ∧ vs.length ≤ 2 ^ 20 ∧
          (∀ v ∈ vs, evE S R n false noScope ((t, .sc v) :: cρ es sc ρ) elt fun a => a = .sc (g v)) ∧ k (.list .tmp (vs.map g))) : evE S R (n + 1) u es ρ (.ListComp elt [⟨.Name t pt, iter, [], 0⟩] sc cp) k := EvS.comp h1 h2 g h
end
theorem kcast {a b : Prop} (e : a = b) (h : b) : a := e ▸ h
theorem look_setvS (s t : String) (a : AV) : look (Str.ofString s) (setv (Str.ofString t) a ρ) = if s = t then some a else look (Str.ofString s) ρ := by
  rw [look_setv]; simp only [Str.ofString_inj]
end
end
open Lean in
def dropT (t : TSyntax `tactic) : MacroM (TSyntax `tactic) := `(tactic| (refine (?k : ?P → ?P) ?p; (case p => $t:tactic); (case k => (intro _; kernel_rfl))))
open Lean in
def castT (t : TSyntax `tactic) : MacroM (TSyntax `tactic) := do
  let u ← dropT (← `(tactic| ($t:tactic; exact rfl)))
  `(tactic| (refine' $(mkIdent `Mine.kcast) ?ne ?_; (case ne => $u:tactic)))
open Lean in
def simpT (s : String) : MacroM (Array (TSyntax ``Parser.Tactic.simpLemma)) := (s.splitOn " ").toArray.mapM fun n => `(Parser.Tactic.simpLemma| $(mkIdent n.toName):term)
open Lean in
local macro_rules | `(tactic| walk_at "m_look") => do
  let xs ← simpT "Mine.setMany Mine.look_setvS Mine.look_cons String.reduceEq reduceIte"
  dropT (← `(tactic| (simp only [$xs,*] <;> rfl)))
open Lean in
local macro_rules | `(tactic| walk_at "m_base") => do
  let N := fun s => mkIdent (Name.mkStr2 "Mine" s)
  let L := fun (s : String) => (s.splitOn " ").toArray
  let a ← (L "xs_nil ev_int ev_bin ev_cmp ev_str ev_bool ev_none ev_usub ev_if ev_slice ev_sub ev_list ev_tup ev_call1 ev_call0 ev_and ex_bool ex_int me_bits me_join me_index su_int su_str su_chr pa_none pa_some re_list ts_cmp ts_chain ts_and ts_or ts_not ts_name ts_call brT brF brN so_sc so_shr so_fn so_tmp sm_nil sm_sc ex_as ex_if ex_ret ex_pass ex_try un_nil un_cons").mapM fun n => `(tacticSeq| apply $(N n))
  let b ← (L "ev_name ex_own").mapM fun n => `(tacticSeq| refine' $(N n) ?hl ?_)
  let c ← (L "binE cmpE augE").mapM fun n => `(tacticSeq| (show $(N n) _ _ _ _; constructor))
  let d ← (L "truE negE tupK scK1 inK1").mapM fun n => `(tacticSeq| (show $(N n) _ _; constructor))
  `(tactic| (first
    | ((with_reducible first | (first $[| $b:tacticSeq]*) | refine' $(N "ev_rev") ?_ ?hl ?_ | refine' $(N "ev_call") ?_ ?hl ?_ ?_ ?_ | refine' $(N "ex_aug") ?_ ?_ ?hl ?_ | refine' $(N "ex_app") rfl rfl rfl ?hl ?_ | refine' $(N "ex_revS") rfl rfl ?hl ?_ ?_); (case hl => walk_at "m_look"))
    | (with_reducible show @Eq Bool _ _; decide +kernel)
    | (with_reducible show Sig.lv _ ≤ _; decide)
    | (with_reducible show Sig.ub _ = _ → _; decide)
    | (with_reducible show @Ne PySem.Str _ _; decide +kernel)
    | (with_reducible first | refine $(N "so_own") rfl rfl ?_ | (first $[| $a:tacticSeq]*) | (first $[| $c:tacticSeq]*) | (first $[| $d:tacticSeq]*) | refine $(N "ex_scs") rfl ?_ | refine $(N "br") (fun _ => ?_) (fun _ => ?_) | refine And.intro (fun (_ : _ = true) => ?_) (fun (_ : _ = false) => ?_) | refine $(N "ex_tup") rfl ?_ ?_ rfl ?_ rfl ?_ | refine $(N "sm_own") rfl rfl rfl rfl ?_ | refine $(N "ex_untup") rfl ?_ rfl rfl ?_ | refine $(N "ex_put") rfl rfl ?_ | refine $(N "ex_forU") ?_ (fun _ _ => rfl) rfl ?_ | refine $(N "ev_meth") rfl (Nat.le_of_ble_eq_true rfl) (fun _ _ _ q => nomatch q) rfl ?_)))
open Lean in
local macro_rules | `(tactic| walk_at "m_norm") => do
  let xs ← simpT "Mine.setMany Mine.setv_cons Mine.setv_nil Mine.dropv Mine.keepv Mine.names Mine.memN List.map_cons List.map_nil Mine.Str.ofString_inj String.reduceEq reduceIte Bool.false_eq_true"
  let t ← `(tactic| simp only [$xs,*])
  let u ← dropT (← `(tactic| ($t:tactic; done)))
  let v ← castT t
  `(tactic| first | $u:tactic | $v:tactic)
section
open PySem PySem.W PyProof.Rows PySem.Calls PyProof.V PySem.Spec PySem.SeqAt

section
variable {M : Model} {A : Around} {R : GenEnd} {Y : Protocol} {n : Nat} {s₀ : Shared} {c : Code} {fs : List Frame} {s : Shared} {env : Env}
  {K : Flow → Sem Fin} {H : Value → Sem Fin} {gd : Bool → Bool} {lv : List Value → List Value}

noncomputable abbrev noE : Value → Shared → Prop := fun _ _ => False

theorem seg_st {st : Stmt} (h : wpAny M (A.over c fs) (exec st env) (fun f s' => Seg M A R Y n s₀ c (K f) fs s') noE s) : Seg M A R Y n s₀ c ((exec st env).wrap K H gd lv) fs s :=
  seg_wrap (wpAny_mono h (fun _ _ x => x) fun _ _ x => x.elim)
theorem seg_If {test : Expr} {body orelse : List Stmt} {pos : Pos}
    (h : wpAny M (A.over c fs) (isTrue test env (eval test env)) (fun b s' => if b = true then Seg M A R Y n s₀ c ((execs body env).wrap K H gd lv) fs s' else Seg M A R Y n s₀ c ((execs orelse env).wrap K H gd lv) fs s') noE s) :
    Seg M A R Y n s₀ c ((exec (.If test body orelse pos) env).wrap K H gd lv) fs s := by
  show Seg M A R Y n s₀ c (.at pos fun _ => ((isTrue test env (eval test env)) >>= fun b => if b = true then execs body env else execs orelse env).wrap K H gd lv) fs s
  refine seg_at ?_
  rw [Sem.bind_eq_wrap', Sem.wrap_wrap]
  refine seg_wrap (wpAny_mono h (fun b s' hb => ?_) fun _ _ x => x.elim)
  cases b with
  | true => rw [if_pos rfl] at hb; rw [if_pos rfl]; exact hb
  | false => rw [if_neg Bool.false_ne_true] at hb; rw [if_neg Bool.false_ne_true]; exact hb
noncomputable def afterLoop (env : Env) (K : Flow → Sem Fin) (H : Value → Sem Fin) (gd : Bool → Bool) (lv : List Value → List Value) : Result → Sem Fin :=
  fun r => ((match r with | .ok f => (.pure f : Sem Flow) | .error e => .raise e).onRaise fun (x : Value) => do
        if (← field x 1) == Value.none then unsupported "frame.own-activation:exception-without-traceback"
        setFlight x env.frame).wrap K H gd lv
theorem seg_For {target iter : Expr} {body orelse : List Stmt} {pos : Pos}
    (h : wpAny M (A.over c fs) (eval iter env) (fun x s₁ => wpAny M (A.over c fs) (pyIter x) (fun it s₂ => ∀ p, Seg M A R Y n s₀ (.forLoop target it body orelse env) (M.den (.forLoop target it body orelse env)) (.ret (afterLoop env K H gd lv) none (gd false) (lv []) c p [] :: fs) s₂) noE s₁) noE s)
    (hs : ∀ x, foldedSetIterable iter env x = pure x) :
    Seg M A R Y n s₀ c ((exec (.For target iter body orelse pos) env).wrap K H gd lv) fs s := by
  rw [exec_For]
  show Seg M A R Y n s₀ c (.at pos fun _ => (eval iter env >>= fun v => foldedSetIterable iter env v >>= fun x => standAt iter.pos >>= fun _ => holding [x] (pyIter x) >>= fun it => runOwn (.forLoop target it body orelse env) env).wrap K H gd lv) fs s
  refine seg_at ?_
  rw [Sem.bind_eq_wrap', Sem.wrap_wrap]
  refine seg_wrap (wpAny_mono h (fun v s₁ h₁ => ?_) fun _ _ x => x.elim)
  rw [hs v, pure_bind, Sem.bind_eq_wrap', Sem.wrap_wrap]
  refine seg_wrap (wpAny_standAt ?_)
  rw [Sem.bind_eq_wrap', Sem.wrap_wrap]
  refine seg_wrap (wpAny_holding (wpAny_mono h₁ (fun it s₂ h₂ => ?_) fun _ _ x => x.elim))
  exact seg_call h₂
end

section
variable {prog : Program} {w : World} {A : Around} {R : GenEnd} {Y : Protocol} {n : Nat} {s₀ : Shared} {fs : List Frame} {s : Shared} {env : Env}
noncomputable def onLoop (env : Env) : Value → Sem Fin := fun e => (do noteFrame e env; theTreesLotGoes e : Sem Unit).wrap (fun _ => .raise e) .raise id id
noncomputable def turnK (target : Expr) (it : Value) (body orelse : List Stmt) (env : Env) : Flow → Sem Fin := fun f => match f with
  | .next | .cont => .pure (.again (.forLoop target it body orelse env))
  | .brk => .pure (.done .next)
  | .ret v => .pure (.done (.ret v))
theorem seg_forLoop {target : Expr} {it : Value} {body orelse : List Stmt} (ht : ∀ v, letOwnedTupleGo target it v = pure ())
    (h : wpAny (model prog w) (A.over (.forLoop target it body orelse env) fs) (pyNext it) (fun r s' => match r with
        | none => Seg (model prog w) A R Y n s₀ (.forLoop target it body orelse env) (.pure (.again (.block orelse env))) fs s'
        | some v => wpAny (model prog w) (A.over (.forLoop target it body orelse env) fs) (assign target env v) (fun _ s'' =>
            Seg (model prog w) A R Y n s₀ (.forLoop target it body orelse env) ((execs body env).wrap (turnK target it body orelse env) (onLoop env) id id) fs s'') noE s') noE s) :
    Seg (model prog w) A R Y n s₀ (.forLoop target it body orelse env) ((model prog w).den (.forLoop target it body orelse env)) fs s := by
  show Seg _ A R Y n s₀ _ ((forTurn target it body orelse env).onRaise (fun x => do noteFrame x env; theTreesLotGoes x)) fs s
  unfold forTurn
  rw [Sem.onRaise_eq_wrap]
  rw [Sem.bind_eq_wrap', Sem.wrap_wrap]
  refine seg_wrap (wpAny_standAt ?_)
  rw [Sem.bind_eq_wrap', Sem.wrap_wrap]
  refine seg_wrap (wpAny_onRaise (wpAny_mono h (fun r s' hr => ?_) fun _ _ x => x.elim))
  cases r with
  | none => exact hr
  | some v =>
    dsimp only
    rw [ht v, pure_bind, Sem.bind_eq_wrap', Sem.wrap_wrap]
    refine seg_wrap (wpAny_mono hr (fun _ s'' h'' => ?_) fun _ _ x => x.elim)
    rw [Sem.bind_eq_wrap', Sem.wrap_wrap]
    rw [Sem.wrap_congr (execs body env) _ _ (K' := turnK target it body orelse env) (H' := onLoop env) (fun f => by cases f <;> rfl)
      (fun e => by first | exact Sem.bind_eq_wrap _ _ | (show (do noteFrame e env; theTreesLotGoes e : Sem Unit).bind (fun _ => .raise e) = _; rw [Sem.bind_eq_wrap]; rfl))]
    exact h''
end
end
section
open PySem PySem.W PyProof.Rows PySem.Calls PyProof.V PySem.Spec PySem.SeqAt

noncomputable def nLast : Str := Str.ofString "last_interval"
noncomputable def nIntv : Str := Str.ofString "interval"
noncomputable def nGrp : Str := Str.ofString "grouping"
noncomputable def nMax : Str := Str.ofString "CHAR_MAX"

noncomputable def LastR (v : Value) : Option Int → Prop
  | none => v = .none
  | some x => ∃ t, v = .int x t
structure GH (W : Wd) (env : Env) (I l : Addr) (items : List Value) (i : Nat) (last : Option Int) (h : Heap) : Prop where
  gw : GW W h
  ns : ∃ m v, h.Ns env.locals m ∧ m nLast = some v ∧ LastR v last
  it : h.IsListIter I l i
  ls : h.IsList l items.toArray
structure GenC (W : Wd) (env : Env) (I l : Addr) : Prop where
  K : EnvOk env
  co : env.scope.isCoroutine = false
  k1 : env.kindOf nLast = some .local
  k2 : env.kindOf nIntv = some .local
  k4 : env.kindOf nMax = some .globalImplicit
  mx : ∃ t, W.mg nMax = some (.int 127 t)
  gC : W.g.get? env.locals = none
  gI : W.g.get? I = none
  CI : env.locals ≠ I
  lI : l ≠ I
  lC : l ≠ env.locals
noncomputable def SinceG (C I : Addr) (s s' : Shared) : Prop := ∃ h' tk, s' = { s with heap := h', toks := tk } ∧ ∀ b o, b ≠ C → b ≠ I → s.heap.get? b = some o → h'.get? b = some o
theorem SinceG.refl (C I : Addr) (s : Shared) : SinceG C I s s := ⟨s.heap, s.toks, rfl, fun _ _ _ _ e => e⟩
theorem SinceG.then {C I : Addr} {s s' : Shared} (x : SinceG C I s s') {h' : Heap} {tk : Nat} (k : ∀ b o, b ≠ C → b ≠ I → s'.heap.get? b = some o → h'.get? b = some o) : SinceG C I s { s' with heap := h', toks := tk } := by
  obtain ⟨h, t, rfl, kk⟩ := x
  exact ⟨h', tk, rfl, fun b o h1 h2 e => k b o h1 h2 (kk b o h1 h2 e)⟩
noncomputable def OwnO (h : Heap) (b : Addr) : Prop := ∃ o, h.get? b = some o ∧ Mut o ∧ (∀ it n, o.data ≠ .seq it n) ∧ (∀ v, o.data ≠ .cell v) ∧ (o.cls ≠ .none ∨ ∀ vs, o.data ≠ .fields vs)
noncomputable def RG (C I : Addr) (fin : Bool) : GenEnd := fun n s₀ r s' => r = .ok (.ret .none) ∧ (n = 0 ∧ fin = true ∧ SinceG C I s₀ s')
noncomputable def YG (W : Wd) (C I l : Addr) (L : List Int) (fin : Bool) : Protocol := fun n s₀ v s' kap => (∃ y t, L[L.length - 1 - n]? = some y ∧ v = .int y t) ∧ SinceG C I s₀ s' ∧ (OwnO s'.heap C ∧ OwnO s'.heap I) ∧
  ((n = 0 ∧ fin = false) ∨ ∀ s'' : Shared, (∀ b, b = C ∨ b = I ∨ b = l → ∀ o, s'.heap.get? b = some o → s''.heap.get? b = some o) → GW W s''.heap → kap (.send .none) s'')

/-- what a row of sizes hands out -/
inductive Beh (fin : Bool) : List Int → Option Int → List Int → Prop
  | nil {last} : fin = true → Beh fin [] last []
  | stop {r last} : fin = true → Beh fin (127 :: r) last []
  | zero {r x m} : fin = false → Beh fin (0 :: r) (some x) (List.replicate (m + 1) x)
  | one {x r last ys} : x ≠ 127 → x ≠ 0 → Beh fin r (some x) ys → Beh fin (x :: r) last (x :: ys)

section
variable {W : Wd} {env : Env} {I l : Addr} {items : List Value} {i : Nat} {last : Option Int} {h h' : Heap} {A : Around} {E : Value → Shared → Prop} {s s₀ : Shared}
theorem GH.mutC (x : GH W env I l items i last h) (G : GenC W env I l) {m' : Str → Option Value} {v : Value} {last' : Option Int} (hn : h'.Ns env.locals m') (hv : m' nLast = some v) (hl : LastR v last') (hs : Heap.SameBut env.locals h h') : GH W env I l items i last' h' := by
  obtain ⟨m, v0, hm, _, _⟩ := x.ns
  obtain ⟨o, es, ep, ho, hd, _⟩ := hm
  refine ⟨x.gw.mut G.gC ho (fun vs hvs => by rw [hd] at hvs; cases hvs) hs.extBut, ⟨m', v, hn, hv, hl⟩, ?_, x.ls.extBut hs.extBut G.lC⟩
  obtain ⟨oi, hoi, r⟩ := x.it
  exact ⟨oi, hs.extBut _ _ (Ne.symm G.CI) hoi, r⟩
theorem GH.mutI (x : GH W env I l items i last h) (G : GenC W env I l) {i' : Nat} (hi : h'.IsListIter I l i') (hs : Heap.ExtBut I h h') : GH W env I l items i' last h' := by
  obtain ⟨oi, hoi, hc, hd⟩ := x.it
  refine ⟨x.gw.mut G.gI hoi (fun vs hvs => ?_) hs, ?_, hi, x.ls.extBut hs G.lI⟩
  · rw [hd] at hvs; cases hvs
    exact ⟨by rw [hc]; nofun, by intro y t; simp⟩
  · obtain ⟨m, v0, hm, r⟩ := x.ns
    exact ⟨m, v0, hm.extBut hs G.CI, r⟩
theorem GH.kept (x : GH W env I l items i last h) (k : ∀ b, b = env.locals ∨ b = I ∨ b = l → ∀ o, h.get? b = some o → h'.get? b = some o) (g : GW W h') : GH W env I l items i last h' := by
  refine ⟨g, ?_, ?_, x.ls.at fun o e => k _ (.inr (.inr rfl)) o e⟩
  · obtain ⟨m, v, hm, r⟩ := x.ns
    exact ⟨m, v, hm.at' fun o e => k _ (.inl rfl) o e, r⟩
  · obtain ⟨oi, hoi, r⟩ := x.it
    exact ⟨oi, k _ (.inr (.inl rfl)) _ hoi, r⟩

theorem GH.own (x : GH W env I l items i last h) : OwnO h env.locals ∧ OwnO h I := by
  constructor
  · obtain ⟨m, v0, ⟨o, es, ep, ho, hd, _⟩, _, _⟩ := x.ns
    exact ⟨o, ho, (fun vs hvs => by rw [hd] at hvs; cases hvs), (fun it n q => by rw [hd] at q; cases q), (fun v q => by rw [hd] at q; cases q), .inr fun vs q => by rw [hd] at q; cases q⟩
  · obtain ⟨o, ho, hc, hd⟩ := x.it
    refine ⟨o, ho, fun vs hvs => ?_, (fun it n q => by rw [hd] at q; cases q), (fun v q => by rw [hd] at q; cases q), .inl (by rw [hc]; nofun)⟩
    rw [hd] at hvs; cases hvs
    exact ⟨by rw [hc]; nofun, by intro y t; simp⟩
/-- the endless loop -/
theorem gen_while (G : GenC W env I l) {L : List Int} {fin : Bool} (hf : fin = false) {x : Int} {p1 p2 p3 p4 : Pos} {t : Nat} {items : List Value} : ∀ (m : Nat) (s₀ s : Shared) (fs : List Frame), splitAtGen fs = none → fs.any Frame.guarded = false → m + 1 ≤ L.length →
    (∀ j ≤ m, L[L.length - 1 - j]? = some x) → (∃ i, GH W env I l items i (some x) s.heap) → SinceG env.locals I s₀ s →
    Seg (model W.prog W.w) A (RG env.locals I fin) (YG W env.locals I l L fin) (m + 1) s₀ (.whileLoop (.Constant (.bool true) t p1) [.Expr (.Yield (some (.Name nLast p2)) p3) p4] [] env)
      ((model W.prog W.w).den (.whileLoop (.Constant (.bool true) t p1) [.Expr (.Yield (some (.Name nLast p2)) p3) p4] [] env)) fs s := by
  intro m
  induction m with
  | zero =>
    intro s₀ s fs hfs hg hlen hL hst hsince
    refine seg_whileLoop (wpAny_isTrue_value (wpAny_Constant_bool (wpAny_truthy_bool ?_)))
    rw [if_pos rfl]
    refine seg_execs_cons (seg_Expr_Yield hfs rfl hg ?_ G.co (not_inter G.K))
    obtain ⟨i, gh⟩ := hst
    obtain ⟨mm, v, hm, hv, tt, rfl⟩ := gh.ns
    refine (show Rd W env s.heap nLast _ from ⟨by decide +kernel, .inl ⟨G.k1, mm, hm, hv⟩⟩).name G.K gh.gw fun kap hk => ?_
    exact ⟨⟨x, tt, hL 0 (Nat.le_refl _), rfl⟩, hsince, gh.own, .inl ⟨rfl, hf⟩⟩
  | succ m ih =>
    intro s₀ s fs hfs hg hlen hL hst hsince
    refine seg_whileLoop (wpAny_isTrue_value (wpAny_Constant_bool (wpAny_truthy_bool ?_)))
    rw [if_pos rfl]
    refine seg_execs_cons (seg_Expr_Yield hfs rfl hg ?_ G.co (not_inter G.K))
    obtain ⟨i, gh⟩ := hst
    obtain ⟨mm, v, hm, hv, tt, rfl⟩ := gh.ns
    refine (show Rd W env s.heap nLast _ from ⟨by decide +kernel, .inl ⟨G.k1, mm, hm, hv⟩⟩).name G.K gh.gw fun kap hk => ?_
    refine ⟨⟨x, tt, hL (m + 1) (Nat.le_refl _), rfl⟩, hsince, gh.own, .inr fun s'' hkeep gw => hk .none s'' ?_⟩
    show Seg _ A _ _ (m + 1) s'' _ ((execs [] env).wrap _ _ id id) fs s''
    refine seg_execs_nil (seg_again rfl ?_)
    exact ih s'' s'' fs hfs hg (by omega) (fun j hj => hL j (by omega)) ⟨i, gh.kept hkeep gw⟩ (.refl _ _ _)
end
end
section
open PySem PySem.W PyProof.Rows PySem.Calls PyProof.V PySem.Spec PySem.SeqAt

noncomputable def funK : Flow → Sem PySem.Fin := fun f => .pure (.done (.ret (match f with | .ret v => v | _ => .none)))
noncomputable def funH (env : Env) : Value → Sem PySem.Fin := fun e => (leaving env e).wrap (fun _ => .raise e) .raise id id
theorem Beh.suffix {fin : Bool} {r : List Int} {last : Option Int} {ys : List Int} (h : Beh fin r last ys) : fin = false → ys ≠ [] := by
  induction h with
  | nil h => intro q; rw [q] at h; cases h
  | stop h => intro q; rw [q] at h; cases h
  | zero h => intro _; simp
  | one _ _ _ _ => intro _; simp

section
variable {W : Wd} {env : Env} {I l : Addr} {items : List Value} {A : Around} {E : Value → Shared → Prop} {p1 p2 p3 p4 p5 p6 p7 p8 p9 q1 q2 q3 q4 q5 q6 q7 q8 q9 r1 r2 r3 r4 r5 r6 r7 r8 r9 : Pos} {t0 t1 t2 : Nat} {rz : List Stmt}

noncomputable def gRaise : List Stmt := [.Raise (some (.Call (.Name (Str.ofString "ValueError") ⟨12, 22, 12, 32⟩) [.Constant (.str (Str.ofString "invalid grouping")) 0 ⟨12, 33, 12, 51⟩] [] ⟨12, 22, 12, 52⟩)) none ⟨12, 16, 12, 52⟩]
noncomputable def gWhile : Stmt := .While (.Constant (.bool true) 0 ⟨13, 18, 13, 22⟩) [.Expr (.Yield (some (.Name nLast ⟨14, 22, 14, 35⟩)) ⟨14, 16, 14, 35⟩) ⟨14, 16, 14, 35⟩] [] ⟨13, 12, 14, 35⟩
theorem ix1 {a m j : Nat} (h : j ≤ m) (h2 : m + 1 ≤ a) : a - 1 - j = a - (m + 1) + (m - j) := by
  rw [← Nat.add_sub_assoc h, Nat.add_comm m 1, ← Nat.sub_sub, Nat.sub_add_cancel (Nat.le_sub_one_of_lt h2)]
theorem ix2 {a m : Nat} (h2 : m + 1 ≤ a) : a - 1 - m = a - (m + 1) + 0 := by rw [Nat.sub_sub, Nat.add_comm 1 m]; rfl
theorem ix3 {a m : Nat} (h2 : m + 1 ≤ a) : a - m = a - (m + 1) + 1 := by
  rw [← Nat.sub_sub, Nat.sub_add_cancel (Nat.le_sub_of_add_le (by rw [Nat.add_comm]; exact h2))]
theorem gen_loop (G : GenC W env I l) (hA : A.handled = none) {L : List Int} {fin : Bool} {tp : Pos} {c0 : Code} {cp : Pos} {b : List Stmt} {K : Flow → Sem PySem.Fin} {H : Value → Sem PySem.Fin} (hKn : K .next = leafOf (.ok (.ret .none))) (hKr : K (.ret .none) = leafOf (.ok (.ret .none)))
    (hb : b = [.If (.Compare (.Name nIntv ⟨8, 11, 8, 19⟩) [.Eq] [.Name nMax ⟨8, 23, 8, 31⟩] ⟨8, 11, 8, 31⟩) [.Return none ⟨9, 12, 9, 18⟩] [] ⟨8, 8, 9, 18⟩,
   .If (.Compare (.Name nIntv ⟨10, 11, 10, 19⟩) [.Eq] [.Constant (.int 0) 0 ⟨10, 23, 10, 24⟩] ⟨10, 11, 10, 24⟩)
     [.If (.Compare (.Name nLast ⟨11, 15, 11, 28⟩) [.Is] [.Constant .none 0 ⟨11, 32, 11, 36⟩] ⟨11, 15, 11, 36⟩) gRaise [] ⟨11, 12, 12, 52⟩,
      gWhile] [] ⟨10, 8, 14, 35⟩,
   .Expr (.Yield (some (.Name nIntv ⟨15, 14, 15, 22⟩)) ⟨15, 8, 15, 22⟩) ⟨15, 8, 15, 22⟩,
   .Assign [.Name nLast ⟨16, 8, 16, 21⟩] (.Name nIntv ⟨16, 24, 16, 32⟩) ⟨16, 8, 16, 32⟩]) :
    ∀ (rem : List Int) (i : Nat) (last : Option Int) (ys : List Int) (s₀ s : Shared), Reps (items.drop i) (rem.map SV.int) → Beh fin rem last ys → ys.length ≤ L.length → L.drop (L.length - ys.length) = ys →
      GH W env I l items i last s.heap → SinceG env.locals I s₀ s →
      Seg (model W.prog W.w) A (RG env.locals I fin) (YG W env.locals I l L fin) ys.length s₀ (.forLoop (.Name nIntv tp) (.ref I) b [] env)
        ((model W.prog W.w).den (.forLoop (.Name nIntv tp) (.ref I) b [] env)) [.ret (afterLoop env K H id id) none false [] c0 cp []] s := by
  subst hb
  intro rem
  induction rem with
  | nil =>
    intro i last ys s₀ s hr hbeh hlen hL gh hsince
    have hfin : fin = true ∧ ys = [] := by
      cases hbeh with
      | nil h => exact ⟨h, rfl⟩
    obtain ⟨hfin, rfl⟩ := hfin
    have hi : items.toArray[i]? = none := by
      have h1 := hr.length
      simp only [List.length_drop, List.map_nil, List.length_nil] at h1
      simp only [List.getElem?_toArray]
      exact List.getElem?_eq_none (by omega)
    refine seg_forLoop (fun _ => rfl) (wpAny_pyNext_list_end (by simp only [Around.over, marksOver, hA]; rfl) gh.it gh.ls hi fun h₁ he₁ => ?_)
    refine seg_again rfl ?_
    show Seg _ A _ _ _ _ _ (leafOf (.ok .next)) _ _
    refine seg_leaf (.ok .next) ?_
    show Seg _ A _ _ _ _ _ (K .next) _ _
    rw [hKn]
    refine seg_end _ ⟨rfl, rfl, hfin, ?_⟩
    exact hsince.then (tk := s.toks) fun b o _ hbI e => he₁ b o hbI e
  | cons x rem ih =>
    intro i last ys s₀ s hr hbeh hlen hL gh hsince
    have hdr : ∃ v, items[i]? = some v ∧ SRep v (.int x) ∧ Reps (items.drop (i + 1)) (rem.map SV.int) := by
      have hd : items.drop i ≠ [] := by
        intro q
        have := hr.length
        rw [q] at this; simp at this
      have hi : i < items.length := by
        apply Classical.byContradiction
        intro q
        exact hd (List.drop_eq_nil_of_le (by omega))
      rw [List.drop_eq_getElem_cons hi] at hr
      cases hr with
      | cons hv hr => exact ⟨_, List.getElem?_eq_getElem hi, hv, hr⟩
    obtain ⟨v, hv, hsv, hr'⟩ := hdr
    cases hsv
    rename_i tx
    refine seg_forLoop (fun _ => rfl) (wpAny_pyNext_list_item gh.it gh.ls (x := .int x tx) (by simpa using hv) fun h₁ hit₁ hs₁ => ?_)
    have gh₁ := gh.mutI G hit₁ hs₁.extBut
    obtain ⟨m, vl, hm, hvl, hlr⟩ := gh₁.ns
    refine wpAny_assign_Name (wpAny_storeName_local G.k2 hm (fun h₂ hn₂ hs₂ => ?_) (by rw [G.K.kind]; rfl))
    have gh₂ : GH W env I l items (i + 1) last h₂ := gh₁.mutC G hn₂ (v := vl) (by simp [nLast, nIntv, Str.ofString_inj]; exact hvl) hlr hs₂
    have since₂ : ∀ tk, SinceG env.locals I s₀ { s with heap := h₂, toks := tk } := fun tk => hsince.then fun b o hbC hbI e => hs₂.extBut b o hbC (hs₁.extBut b o hbI e)
    have rdI : ∀ {hh : Heap} {mm : Str → Option Value}, hh.Ns env.locals mm → mm nIntv = some (.int x tx) → Rd W env hh nIntv (.int x tx) := fun hn hq => ⟨by decide +kernel, .inl ⟨G.k2, _, hn, hq⟩⟩
    obtain ⟨tm, hmx⟩ := G.mx
    have rdM : ∀ {hh : Heap}, Rd W env hh nMax (.int 127 tm) := fun {hh} => ⟨by decide +kernel, .inr (.inr (.inr (.inl ⟨G.k4, hmx⟩)))⟩
    refine seg_execs_cons (seg_If ?_)
    refine wpAny_isTrue_Compare1 ((rdI hn₂ (by simp)).name G.K gh₂.gw (rdM.name G.K gh₂.gw (PyProof.Rows.eq_int (wpAny_truthy_bool ?_)))) (by with_unfolding_all rfl)
    by_cases hx : x = 127
    · subst hx
      have hfin : fin = true ∧ ys = [] := by
        cases hbeh with
        | stop h => exact ⟨h, rfl⟩
        | one h _ _ => exact absurd rfl h
      obtain ⟨hfin, rfl⟩ := hfin
      rw [if_pos (by simp)]
      refine seg_execs_cons (seg_st (wpAny_Return_none ?_))
      show Seg _ A _ _ _ _ _ (leafOf (.ok (.ret .none))) _ _
      refine seg_leaf (.ok (.ret .none)) ?_
      show Seg _ A _ _ _ _ _ (K (.ret .none)) _ _
      rw [hKr]
      exact seg_end _ ⟨rfl, rfl, hfin, since₂ _⟩
    · rw [if_neg (by simpa using hx)]
      refine seg_execs_nil (seg_execs_cons (seg_If ?_))
      refine wpAny_isTrue_Compare1 ((rdI hn₂ (by simp)).name G.K gh₂.gw (wpAny_Constant_int (PyProof.Rows.eq_int (wpAny_truthy_bool ?_)))) (by with_unfolding_all rfl)
      by_cases hx0 : x = 0
      · subst hx0
        have hz : fin = false ∧ ∃ y m, last = some y ∧ ys = List.replicate (m + 1) y := by
          cases hbeh with
          | zero h => exact ⟨h, _, _, rfl, rfl⟩
          | one _ h _ => exact absurd rfl h
        obtain ⟨hfin, y, mm, rfl, rfl⟩ := hz
        obtain ⟨tl, rfl⟩ := hlr
        rw [if_pos (by simp)]
        refine seg_execs_cons (seg_If ?_)
        refine wpAny_isTrue_Compare1 ((show Rd W env h₂ nLast (.int y tl) from ⟨by decide +kernel, .inl ⟨G.k1, _, hn₂, by simp [nLast, nIntv, Str.ofString_inj]; exact hvl⟩⟩).name G.K gh₂.gw (wpAny_Constant_none (PySem.is_none (wpAny_truthy_bool ?_)))) (by with_unfolding_all rfl)
        rw [if_neg (show ¬ (Value.int y tl == Value.none) = true from nofun)]
        refine seg_execs_nil (seg_execs_cons (seg_While fun pw => ?_))
        have hlen' : mm + 1 ≤ L.length := by simpa using hlen
        rw [List.length_replicate]
        refine gen_while (items := items) G (L := L) hfin (x := y) mm s₀ _ _ rfl rfl hlen' (fun j hj => ?_) ⟨_, gh₂⟩ (since₂ _)
        rw [List.length_replicate] at hL
        have h1 : (L.drop (L.length - (mm + 1)))[mm - j]? = some y := by
          rw [hL, List.getElem?_replicate]; simp; omega
        rw [List.getElem?_drop] at h1
        rw [← h1, ix1 hj hlen']
      · have hone : ∃ ys', ys = x :: ys' ∧ Beh fin rem (some x) ys' := by
          cases hbeh with
          | stop h => exact absurd rfl hx
          | zero h => exact absurd rfl hx0
          | one _ _ h => exact ⟨_, rfl, h⟩
        obtain ⟨ys', rfl, hb'⟩ := hone
        rw [if_neg (by simpa using hx0)]
        refine seg_execs_nil (seg_execs_cons ?_)
        refine seg_Expr_Yield (n := ys'.length) rfl rfl rfl ?_ G.co (not_inter G.K)
        refine (rdI hn₂ (by simp)).name G.K gh₂.gw fun kap hkap => ?_
        simp only [List.length_cons] at hlen hL
        refine ⟨⟨x, tx, ?_, rfl⟩, since₂ _, gh₂.own, .inr fun s'' hkeep gw => hkap .none s'' ?_⟩
        · have h1 : (L.drop (L.length - (ys'.length + 1)))[0]? = some x := by rw [hL]; rfl
          rw [List.getElem?_drop] at h1
          rw [← h1, ix2 hlen]
        · -- resumed
          have gh₃ := gh₂.kept hkeep gw
          have hn₃ : s''.heap.Ns env.locals (fun y => if y = nIntv then some (.int x tx) else m y) := hn₂.at' fun o e => hkeep _ (.inl rfl) o e
          show Seg _ A _ _ ys'.length s'' _ ((execs [_] env).wrap _ _ id id) _ s''
          refine seg_execs_cons (seg_st (wpAny_Assign_Name ((rdI hn₃ (by simp)).name G.K gw ?_) (swaps_plain rfl)))
          refine wpAny_storeName_local G.k1 hn₃ (fun h₄ hn₄ hs₄ => ?_) (by rw [G.K.kind]; rfl)
          refine seg_execs_nil (seg_again rfl ?_)
          refine ih (i + 1) (some x) ys' s'' _ hr' hb' (by omega) ?_ (gh₃.mutC G hn₄ (v := .int x tx) (by simp) ⟨tx, rfl⟩ hs₄) ?_
          · have : L.drop (L.length - ys'.length) = (L.drop (L.length - (ys'.length + 1))).drop 1 := by
              rw [List.drop_drop, ix3 hlen]
            rw [this, hL]; rfl
          · exact (SinceG.refl _ _ s'').then fun b o hbC hbI e => hs₄.extBut b o hbC e
end
end
section
open PySem PySem.W PyProof.Rows PySem.Calls PyProof.V PySem.Spec PySem.SeqAt

noncomputable def stAt (i : Nat) : Stmt := PySem.Challenge.pw_xi0014_01.main.body.getD i (.Pass ⟨0,0,0,0⟩)
structure StPart where
  name : Str := Str.ofString ""
  args : Arguments := default
  body : List Stmt := []
  ex : Expr := .Constant .none 0 ⟨0,0,0,0⟩
  sc : Scope := noScope
  pos : Pos := ⟨0,0,0,0⟩
noncomputable def stPart : Stmt → StPart
  | .FunctionDef n a b _ _ _ sc _ _ p => { name := n, args := a, body := b, sc := sc, pos := p }
  | .If t b _ _ => { ex := t, body := b }
  | .For _ _ b _ p => { body := b, pos := p }
  | _ => {}
noncomputable def fnBody (s : Stmt) : List Stmt := (stPart s).body
noncomputable def fnScope (s : Stmt) : Scope := (stPart s).sc
noncomputable def fnName (s : Stmt) : Str := (stPart s).name
noncomputable def fnParams (s : Stmt) : Arguments := (stPart s).args
end
section
open PySem PySem.W PyProof.Rows PySem.Calls PyProof.V PySem.Spec PySem.SeqAt

/-- the next of a generator function's generator, its state bare behind -/
theorem next_gen {prog : Program} {w : World} {A : Around} {E : Value → Shared → Prop} {s : Shared} {a : Addr} {g n : Nat} {gs : GenState} {P : Nat → Shared → Shared → Prop} {Y : Protocol} {Q : Option Value → Shared → Prop} (hh : A.handled = none)
    (hl : s.heap.NoLimit) (hroom : A.depth < recursionLimit) (hg : s.heap.IsGen a g) (hgs : s.gens[g]? = some gs)
    (hgo : gs.Goes (model prog w) A.in1 (fun n s₀ r s₁ => r = .ok (.ret .none) ∧ P n s₀ s₁) Y n (.send .none) (s.setGen g .running))
    (hY : ∀ v s₁ gs', gs'.bare = true → Y (n - 1) (s.setGen g .running) v s₁ (fun r' s'' => match n with
        | 0 => False
        | m + 1 => gs'.Goes (model prog w) A.in1 (fun n s₀ r s₁ => r = .ok (.ret .none) ∧ P n s₀ s₁) Y m r' s'') → Q (some v) (s₁.setGen g gs'))
    (hP : ∀ s₁, P n (s.setGen g .running) s₁ → ∀ h', (∀ b o, s₁.heap.get? b = some o → h'.get? b = some o) → Q none { s₁.setGen g .finished with heap := h' }) :
    wpAny (model prog w) A (pyNext (.ref a)) Q E s := by
  have wake : wpAny (model prog w) A.in1 (Builtin.Generator.genWake (.ref a) (.send .none)) (fun fin s' => ∃ v, fin = .done (.ret v) ∧ Q (some v) s')
      (fun e s' => (∃ ex, e = .ref ex ∧ s'.TypeIs (.ref ex) "StopIteration") ∧ Q none s') s := by
    unfold Builtin.Generator.genWake
    refine wpAny_bind (wpAny_holding (wpAny_genNumber hg (wpAny_bind (wpAny_genState hgs ?_))))
    cases gs with
    | running => exact hgo.elim
    | finished => exact hgo.elim
    | _ =>
      refine wpAny_bind (wpAny_roomToWake hl hroom ?_)
      show wpAny _ A.in1 (.resume g (.send .none) [] _) _ _ s
      refine wpAny_resumeQ hgs hgo (fun x s₁ hx => ?_) (fun v s₁ gs' hb hv => ?_)
      · obtain ⟨rfl, hp⟩ := hx
        show wpAny _ A.in1 (newExc (.type "StopIteration") [] >>= _) _ _ _
        refine wpAny_bind ?_
        simp only [newExc, newTuple]
        refine wpAny_bind (wpAny_newObj_type ?_ (by size_fits))
        refine wpAny_bind (m := firstArgMember _ _) (wpAny_of_eq (a := Value.none) (by first | rfl | (simp only [firstArgMember]; rfl)) ?_)
        refine wpAny_newObj_type ?_ (by size_fits)
        simp only [raiseNew]
        refine wpAny_bind (wpAny_bind (wpAny_handled ?_))
        first | rw [show A.in1.handled = none from hh] | rw [hh]
        exact wpAny_throw ⟨⟨_, rfl, ⟨_, Heap.get?_push_size _ rfl, rfl⟩⟩, hP s₁ hp _ fun b o hb => Heap.get?_push_of_some _ (Heap.get?_push_of_some _ hb)⟩
      · exact wpAny_pure ⟨v, rfl, hY v s₁ gs' hb hv⟩
  unfold pyNext
  refine wpAny_bind (wpAny_attempt (wpAny_callSpecial?_slot (name := Str.ofString "__next__") hg.typeIs slot_gen_next
    (wpAny_call_entry slot_gen_next hg.typeIs entry_gen_next (wpAny_mono wake (fun fin s' hf => ?_) fun e s' he => ?_) (args_gen_next _))))
  · obtain ⟨v, rfl, hq⟩ := hf
    exact ⟨v, rfl, wpAny_pure hq⟩
  · obtain ⟨⟨ex, rfl, ht⟩, hq⟩ := he
    exact wpAny_bind (wpAny_isInstance (T := "StopIteration") (b := true) ht isSubtype_stop (wpAny_pure hq))

/-- what may be turned by the generator's own steps -/
structure OwnB (env : Env) (s₀ : Shared) (h : Heap) (b : Addr) : Prop where
  n0 : s₀.heap.get? b = none
  ob : OwnO h b
  ne : b ≠ env.locals

section
variable {A : Around} {E : Value → Shared → Prop} {W : Wd} {S : Nat → Sig} {env : Env} {own : Option Addr} {ρ : Loc} {s₀ s : Shared}
theorem FS.mutGen (F : FS W S true env own ρ s₀ s) {B : List Addr} (hB : ∀ b ∈ B, OwnB env s₀ s.heap b) {h' : Heap} {tk : Nat} {gens' : Array GenState} {g : Nat} (hk : ∀ b o, b ∉ B → s.heap.get? b = some o → h'.get? b = some o)
    (hg : s₀.gens.size ≤ g) (hgs : GenOnlyQ g s.gens gens') : FS W S true env own ρ s₀ { s with heap := h', toks := tk, gens := gens' } := by
  have objK : ∀ {b : Addr} {o : Obj}, s.heap.get? b = some o → (b = env.locals ∨ (∃ it n, o.data = .seq it n) ∨ (∃ v, o.data = .cell v) ∨ ¬ Mut o ∨ (∃ ob, s₀.heap.get? b = some ob)) → h'.get? b = some o := by
    intro b o hb hq
    refine hk b o (fun hm => ?_) hb
    have OB := hB b hm
    obtain ⟨o2, h2, hm2, hns, hnc, _⟩ := OB.ob
    rw [hb] at h2; cases h2
    rcases hq with q | ⟨it, n, q⟩ | ⟨v, q⟩ | q | ⟨ob, q⟩
    · exact OB.ne q
    · exact hns _ _ q
    · exact hnc _ q
    · exact q hm2
    · rw [OB.n0] at q; cases q
  have tok' : W.TOk h' := W.tom2 _ _ F.rs.gw.tok fun b o hb hn => objK hb (.inr (.inr (.inr (.inl hn))))
  have listK : ∀ {l vs}, LRep s.heap l vs → LRep h' l vs := fun {l vs} q => q.at1 fun o ho => by
    obtain ⟨o2, it, n, h2, _, h3⟩ := q.obj
    rw [ho] at h2; cases h2
    exact objK ho (.inr (.inl ⟨it, n, h3⟩))
  have cellK : ∀ d w, s.heap.IsCell d w → h'.IsCell d w := fun d w ⟨o, h1, h2⟩ => ⟨o, objK h1 (.inr (.inr (.inl ⟨w, h2⟩))), h2⟩
  have nsK : ∀ m, s.heap.Ns env.locals m → h'.Ns env.locals m := fun m hm => hm.at' fun o ho => objK ho (.inl rfl)
  refine ⟨⟨⟨fun b o hb => objK (F.rs.gw.keep b o hb) (.inr (.inr (.inr (.inr ⟨o, F.gk b o hb⟩)))), tok'⟩, fun y b hy => ?_, fun l hl => ?_⟩, F.gk, ?_, let ⟨m, hm⟩ := F.loc; ⟨m, nsK m hm⟩, F.ln, fun y hy => let ⟨c, w, h1, h2, h3⟩ := F.cell y hy; ⟨c, w, h1, cellK _ _ h2, h3⟩, F.apart, F.on⟩
  · obtain ⟨w, rd, vr⟩ := F.rs.var y b hy
    refine ⟨w, rd.step nsK cellK, ?_⟩
    cases b with
    | list t zs => cases t with
      | tmp => exact vr
      | own => obtain ⟨l₁, h1, q, z⟩ := vr; exact ⟨l₁, h1, q, listK z⟩
      | shr => obtain ⟨l₁, h1, q, z⟩ := vr; exact ⟨l₁, h1, q, listK z⟩
    | _ => exact vr
  · obtain ⟨o, it, n, h1, h2, h3⟩ := F.rs.ow l hl
    exact ⟨o, it, n, objK h1 (.inr (.inl ⟨it, n, h3⟩)), h2, h3⟩
  · have x : ExtU W s₀ s := by simpa [Ex] using F.ex
    simp only [Ex, if_true]
    refine ⟨fun b o hb e => objK (x.keep b o hb e) (.inr (.inr (.inr (.inr ⟨o, e⟩)))), fun _ => tok', x.os, fun i z e => ?_, fun e => hgs.bare (x.bare e)⟩
    have h1 := x.gens i z e
    rcases hgs with rfl | ⟨⟨_, ho⟩, _⟩
    · exact h1
    · refine (ho i ?_).trans h1
      have : i < s₀.gens.size := (Array.getElem?_eq_some_iff.mp e).1
      omega
end

/-- the generator's state between two draws -/
noncomputable def GenSt (W : Wd) (A : Around) (env genv : Env) (a : Addr) (g : Nat) (l : Addr) (items : List Value) (L : List Int) (fin : Bool) (s₀ : Shared) (j : Nat) (s : Shared) : Prop :=
  s.heap.IsGen a g ∧ s₀.gens.size ≤ g ∧ s.heap.IsList l items.toArray ∧ (OwnB env s₀ s.heap genv.locals ∧ a ≠ genv.locals) ∧
  ((j = 0 ∧ s.gens[g]? = some (.fresh (.func (fnBody (stAt 3)) genv)) ∧ ∃ m, s.heap.Ns genv.locals m ∧ m nGrp = some (.ref l)) ∨
   (0 < j ∧ ∃ I gs, (OwnB env s₀ s.heap I ∧ a ≠ I) ∧ s.gens[g]? = some gs ∧ GenC W genv I l ∧ ((fin = false ∧ j = L.length) ∨
      ∀ s'' : Shared, (∀ b, b = genv.locals ∨ b = I ∨ b = l → ∀ o, s.heap.get? b = some o → s''.heap.get? b = some o) → GW W s''.heap →
        gs.Goes (model W.prog W.w) A.in1 (RG genv.locals I fin) (YG W genv.locals I l L fin) (L.length - j) (.send .none) s'')))

structure GenK (W : Wd) (genv : Env) : Prop where
  K : EnvOk genv
  co : genv.scope.isCoroutine = false
  k1 : genv.kindOf nLast = some .local
  k2 : genv.kindOf nIntv = some .local
  k3 : genv.kindOf nGrp = some .local
  k4 : genv.kindOf nMax = some .globalImplicit
  mx : ∃ t, W.mg nMax = some (.int 127 t)

section
variable {A : Around} {E : Value → Shared → Prop} {W : Wd} {S : Nat → Sig} {env genv : Env} {own : Option Addr} {ρ : Loc} {s₀ s : Shared} {a l : Addr} {g j : Nat} {items : List Value} {L sizes : List Int} {fin : Bool}

theorem GW.push {h : Heap} {o : Obj} (x : GW W h) : GW W (h.push o) := ⟨fun b ob e => Heap.get?_push_of_some _ (x.keep b ob e), W.tok _ _ x.tok fun b ob e => Heap.get?_push_of_some _ e⟩
theorem OwnO.of_keep {h h' : Heap} {b : Addr} (x : OwnO h b) (k : ∀ o, h.get? b = some o → h'.get? b = some o) : OwnO h' b := let ⟨o, ho, r⟩ := x; ⟨o, k _ ho, r⟩

/-- how the generator goes on -/
theorem gen_goes (hst : GenSt W A env genv a g l items L fin s₀ j s) (F : FS W S true env own ρ s₀ s) (K : GenK W genv) (hA : A.handled = none) (hbeh : Beh fin sizes none L) (hr : Reps items (sizes.map SV.int)) (hj : j < L.length ∨ (j = L.length ∧ fin = true)) :
    ∃ I gs, s.gens[g]? = some gs ∧ GenC W genv I l ∧ ((OwnB env s₀ s.heap I ∧ a ≠ I) ∨ (s.heap.get? I = none ∧ I ≠ env.locals)) ∧
      gs.Goes (model W.prog W.w) A.in1 (RG genv.locals I fin) (YG W genv.locals I l L fin) (L.length - j) (.send .none) (s.setGen g .running) := by
  obtain ⟨hg, hgs, hl, ⟨hC, haC⟩, hh⟩ := hst
  rcases hh with ⟨rfl, hfr, m, hm, hgr⟩ | ⟨h0, I, gs, hI, hgs', hc, hgo⟩
  · have hsz : s.heap.get? s.heap.objs.size = none := fresh_top _
    have ltC : genv.locals < s.heap.objs.size := hm.lt
    obtain ⟨ol, hol, hcl, nl, hdl⟩ := id hl
    have ltl : l < s.heap.objs.size := lt_of_some hol
    obtain ⟨oC, es, ep, hoC, hdC, _⟩ := id hm
    have C : GenC W genv s.heap.objs.size l := by
      refine ⟨K.K, K.co, K.k1, K.k2, K.k4, K.mx, F.gnone hC.n0, ?_, Nat.ne_of_lt ltC, Nat.ne_of_lt ltl, ?_⟩
      · cases hq : W.g.get? s.heap.objs.size with
        | none => rfl
        | some o => have := F.rs.gw.keep _ _ hq; rw [hsz] at this; cases this
      · rintro rfl
        rw [hoC] at hol; cases hol; rw [hdC] at hdl; cases hdl
    refine ⟨s.heap.objs.size, _, hfr, C, .inr ⟨hsz, ?_⟩, rfl, ?_⟩
    · obtain ⟨m', hm'⟩ := F.loc
      exact Ne.symm (Nat.ne_of_lt hm'.lt)
    · rw [Nat.sub_zero]
      refine seg_func ?_
      have e : fnBody (stAt 3) = fnBody (stAt 3) := rfl
      conv at e => lhs; whnf
      rw [← e]
      refine seg_execs_cons (seg_st (wpAny_Assign_Name (wpAny_Constant_none ?_) (swaps_plain rfl)))
      refine wpAny_storeName_local K.k1 (show (s.setGen g .running).heap.Ns genv.locals m from hm) (fun h₁ hn₁ hs₁ => ?_) (by rw [K.K.kind]; rfl)
      refine seg_execs_cons (seg_For ?_ (fun _ => rfl))
      have gw₁ : GW W h₁ := F.rs.gw.mut C.gC hoC (fun vs hvs => by rw [hdC] at hvs; cases hvs) hs₁.extBut
      have hl₁ : h₁.IsList l items.toArray := hl.extBut hs₁.extBut C.lC
      refine (show Rd W genv h₁ nGrp (.ref l) from ⟨by decide +kernel, .inl ⟨K.k3, _, hn₁, ?_⟩⟩).name K.K gw₁ ?_
      · simp only [nGrp, Str.ofString_inj, String.reduceEq, if_false]; exact hgr
      refine wpAny_pyIter_list hl₁ fun p => ?_
      have hsz₁ : h₁.objs.size = s.heap.objs.size := hs₁.1
      have hI : ∀ (I : Addr), I = h₁.objs.size → (h₁.push { cls := .type "list_iterator", data := .fields #[.ref l, .int 0 0] }).get? I = some { cls := .type "list_iterator", data := .fields #[.ref l, .int 0 0] } := by
        rintro I rfl; exact Heap.get?_push_size _ rfl
      have hI' := hI _ hsz₁.symm
      show Seg _ _ _ _ _ _ (.forLoop _ (.ref h₁.objs.size) _ _ _) _ _ _
      rw [hsz₁]
      refine gen_loop (A := A.in1) C (show A.in1.handled = none from hA) ?k1 ?k2 rfl sizes 0 none L _ _ hr hbeh (Nat.le_refl _) (by simp) ?_ ?_
      case k1 => rfl
      case k2 => rfl
      · refine ⟨?_, ⟨_, .none, hn₁.push _, by simp only [nLast, if_true], rfl⟩, ⟨_, hI', rfl, rfl⟩, hl₁.push _⟩
        exact gw₁.push
      · refine ⟨_, _, rfl, fun b o hbC hbI e => ?_⟩
        exact Heap.get?_push_of_some _ (hs₁.extBut b o hbC e)
  · rcases hgo with ⟨hf, hjL⟩ | hgo
    · rcases hj with hj | ⟨_, hj⟩
      · omega
      · rw [hf] at hj; cases hj
    · exact ⟨I, gs, hgs', hc, .inl hI, hgo _ (fun _ _ _ e => e) F.rs.gw⟩

/-- one draw -/
theorem gen_draw (hst : GenSt W A env genv a g l items L fin s₀ j s) (F : FS W S true env own ρ s₀ s) (K : GenK W genv) (hA : A.handled = none) (hroom : A.depth < recursionLimit) (hbeh : Beh fin sizes none L) (hr : Reps items (sizes.map SV.int)) (hj : j < L.length ∨ (j = L.length ∧ fin = true))
    {Q : Option Value → Shared → Prop} (hsome : ∀ y t s', L[j]? = some y → FS W S true env own ρ s₀ s' → GenSt W A env genv a g l items L fin s₀ (j + 1) s' → Q (some (.int y t)) s')
    (hnone : j = L.length → ∀ s', FS W S true env own ρ s₀ s' → Q none s') : wpAny (model W.prog W.w) A (pyNext (.ref a)) Q E s := by
  obtain ⟨I, gs, hgs, C, hI, hgo⟩ := gen_goes hst F K hA hbeh hr hj
  obtain ⟨hg, hsz, hl, ⟨hC, haC⟩, _⟩ := hst
  have glt : ∀ x, GenOnly g s.gens (s.setGen g x).gens := fun x => GenOnly.setGen s g x
  -- the places that may be turned
  have hB : ∃ B : List Addr, (∀ b ∈ B, OwnB env s₀ s.heap b) ∧ (∀ b o, s.heap.get? b = some o → b ∉ B → b ≠ genv.locals ∧ b ≠ I) := by
    rcases hI with ⟨hI, _⟩ | ⟨hI, _⟩
    · refine ⟨[genv.locals, I], fun b hb => ?_, fun b o _ hb => ?_⟩
      · simp only [List.mem_cons, List.not_mem_nil, or_false] at hb
        rcases hb with rfl | rfl
        · exact hC
        · exact hI
      · simp only [List.mem_cons, List.not_mem_nil, or_false, not_or] at hb; exact hb
    · refine ⟨[genv.locals], fun b hb => ?_, fun b o ho hb => ?_⟩
      · simp only [List.mem_cons, List.not_mem_nil, or_false] at hb
        subst hb; exact hC
      · simp only [List.mem_cons, List.not_mem_nil, or_false] at hb
        exact ⟨hb, by rintro rfl; rw [hI] at ho; cases ho⟩
  obtain ⟨B, hB1, hB2⟩ := hB
  have hI0 : s₀.heap.get? I = none ∧ I ≠ env.locals := by
    rcases hI with ⟨hI, _⟩ | ⟨hI, hne⟩
    · exact ⟨hI.n0, hI.ne⟩
    · exact ⟨F.ex.ext.nback F.rs.gw.tok hI, hne⟩
  have haI : a ≠ I := by
    rcases hI with ⟨_, h⟩ | ⟨hI, _⟩
    · exact h
    · rintro rfl
      obtain ⟨o, nm, qn, ho, _⟩ := hg
      rw [hI] at ho; cases ho
  refine next_gen (P := fun n s₀ s₁ => n = 0 ∧ fin = true ∧ SinceG genv.locals I s₀ s₁) hA F.rs.gw.nl hroom hg hgs hgo (fun v s₁ gs' hb hv => ?_) (fun s₁ hp h' hk => ?_)
  · obtain ⟨⟨y, t, hy, rfl⟩, ⟨h₁, tk₁, rfl, hk₁⟩, ⟨o1, o2⟩, hnext⟩ := hv
    have F' : FS W S true env own ρ s₀ { s with heap := h₁, toks := tk₁, gens := ((s.setGen g .running).setGen g gs').gens } :=
      F.mutGen hB1 (fun b o hb e => hk₁ b o (hB2 b o e hb).1 (hB2 b o e hb).2 e) hsz (GenOnlyQ.of ((glt .running).trans (GenOnly.setGen (s.setGen g .running) g gs')) (setGen_self (gs := .running) (setGen_self hgs)) hb)
    have hjn : j < L.length := by
      rcases hj with hj | ⟨hj, hf⟩
      · exact hj
      · exfalso
        rcases hnext with ⟨_, q⟩ | q
        · rw [hf] at q; cases q
        · have := q { s.setGen g .running with heap := h₁, toks := tk₁ } (fun _ _ _ e => e) F'.rs.gw
          rw [hj, Nat.sub_self] at this
          exact this
    obtain ⟨m, hm⟩ : ∃ m, L.length - j = m + 1 := ⟨L.length - j - 1, ns_pred hjn⟩
    refine hsome y t _ ?_ F' ⟨?_, hsz, ?_, ⟨⟨hC.n0, o1, hC.ne⟩, haC⟩, .inr ⟨Nat.succ_pos j, I, gs', ⟨⟨hI0.1, o2, hI0.2⟩, haI⟩, setGen_self (gs := .running) (setGen_self hgs), C, ?_⟩⟩
    · rw [← hy, ← ns_back hjn]
    · obtain ⟨o, nm, qn, ho, hc, hd, hsl⟩ := hg
      exact ⟨o, nm, qn, hk₁ a o haC haI ho, hc, hd, hsl⟩
    · exact hl.at fun o e => hk₁ l o C.lC C.lI e
    · rcases hnext with ⟨q, hf⟩ | q
      · exact .inl ⟨hf, by omega⟩
      · refine .inr fun s'' k2 gw => ?_
        have := q s'' k2 gw
        rw [hm] at this
        have e : L.length - (j + 1) = m := ns_next hm
        rw [e]
        exact this
  · obtain ⟨hn0, hf, h₁, tk₁, rfl, hk₁⟩ := hp
    have hjL : j = L.length := by
      rcases hj with hj | hj
      · omega
      · exact hj.1
    refine hnone hjL _ (F.mutGen (tk := tk₁) hB1 (fun b o hb e => hk b o (hk₁ b o (hB2 b o e hb).1 (hB2 b o e hb).2 e)) hsz (GenOnlyQ.of ((glt .running).trans (GenOnly.setGen (s.setGen g .running) g .finished)) (setGen_self (gs := .running) (setGen_self hgs)) rfl))
end
end
section
open PySem PySem.W PyProof.Rows PySem.Calls PyProof.V PySem.Spec PySem.SeqAt

structure GenFn (W : Wd) (gi : Str) (fg : Addr) (fd : FuncData) : Prop where
  val : W.mg gi = some (.ref fg)
  at' : ∃ o, W.g.get? fg = some o ∧ o.data = .func fd
  co : fd.scope.isCoroutine = false
  gen : fd.scope.isGenerator = true
  kind : fd.scope.kind = .function
  body' : fd.body = .stmts (fnBody (stAt 3))
  clo : fd.closure = []
  gl : fd.globals = mainGlobals
  bu : fd.builtins = builtinsNs
  code : W.g.CodeRec fd.code fd.qualname
  k1 : fd.scope.names.lookup nLast = some .local
  k2 : fd.scope.names.lookup nIntv = some .local
  k3 : fd.scope.names.lookup nGrp = some .local
  k4 : fd.scope.names.lookup nMax = some .globalImplicit
  nocell : ∀ x ∈ fd.scope.names, x.2 ≠ .cell
  bind : ∀ v, bindArgs fd ⟨[v], []⟩ = pure [(nGrp, v)]
  mx : ∃ t, W.mg nMax = some (.int 127 t)

section
variable {W : Wd} {S : Nat → Sig} {R N : Nat} {on : Str} {es : Scope} {n : Nat} {A : Around} {env genv : Env} {own : Option Addr} {s₀ s : Shared} {ρ : Loc} {E : Value → Shared → Prop} {Q : Flow → Shared → Prop} {kn : Loc → Prop} {kr : AV → Prop}

theorem notHid_of (F : FS W S true env own ρ s₀ s) {b : Addr} {o : Obj} (ho : s.heap.get? b = some o) (h1 : ∀ it n, o.data ≠ .seq it n) (h2 : ∀ v, o.data ≠ .cell v) (h3 : b ≠ env.locals) : b ∉ hid env own := by
  intro hm
  rcases mem_hid.mp hm with q | q | ⟨x, hk, hc⟩
  · exact h3 q
  · obtain ⟨o', it, k, e1, _, e3⟩ := F.rs.ow _ q
    rw [ho] at e1; cases e1
    exact h1 _ _ e3
  · obtain ⟨c, v, e1, ⟨o', e2, e3⟩, _⟩ := F.cell x hk
    rw [hc] at e1; cases e1
    rw [ho] at e2; cases e2
    exact h2 _ e3
theorem notTb_of {h : Heap} (t : W.TOk h) {b : Addr} {o : Obj} (ho : h.get? b = some o) (hc : o.cls ≠ .none ∨ ∀ vs, o.data ≠ .fields vs) : ¬ W.tb b := fun hb => by
  obtain ⟨ps, hp⟩ := W.tin _ t b hb
  rw [hp] at ho; cases ho
  rcases hc with q | q
  · exact q rfl
  · exact q _ rfl

theorem GenSt.later {a l : Addr} {g j : Nat} {items : List Value} {L : List Int} {fin : Bool} {s' : Shared} (h : GenSt W A env genv a g l items L fin s₀ j s) (F : FS W S true env own ρ s₀ s) (hol : own ≠ some l)
    (hk : ∀ b o, s.heap.get? b = some o → ¬ W.tb b → b ∉ hid env own → s'.heap.get? b = some o) (hg : ∀ (i : Nat) (x : GenState), s.gens[i]? = some x → s'.gens[i]? = some x) : GenSt W A env genv a g l items L fin s₀ j s' := by
  obtain ⟨h1, h2, h3, ⟨h4, h5⟩, h6⟩ := h
  have ownK : ∀ {b : Addr}, OwnB env s₀ s.heap b → (∀ o, s.heap.get? b = some o → s'.heap.get? b = some o) := by
    intro b hb o ho
    obtain ⟨o', e1, _, e3, e4, e5⟩ := hb.ob
    rw [ho] at e1; cases e1
    exact hk b o ho (notTb_of F.rs.gw.tok ho e5) (notHid_of F ho e3 e4 hb.ne)
  have listK : ∀ o, s.heap.get? l = some o → s'.heap.get? l = some o := by
    intro o ho
    obtain ⟨o', e1, e2, k, e3⟩ := h3
    rw [ho] at e1; cases e1
    exact hk l o ho (TOk.notTb F.rs.gw.tok ho (by rw [e2]; nofun)) (F.notHid ho (.inr ⟨⟨_, _, e3⟩, hol⟩))
  refine ⟨?_, h2, h3.at listK, ⟨⟨h4.n0, h4.ob.of_keep (ownK h4), h4.ne⟩, h5⟩, ?_⟩
  · obtain ⟨o, nm, qn, ho, hc, hd, hsl⟩ := h1
    exact ⟨o, nm, qn, hk a o ho (TOk.notTb F.rs.gw.tok ho (by rw [hc]; nofun)) (F.notHid ho (.inl ⟨_, hd⟩)), hc, hd, hsl⟩
  · rcases h6 with ⟨e1, e2, m, e3, e4⟩ | ⟨e1, I, gs, ⟨e2, e3⟩, e4, e5, e6⟩
    · exact .inl ⟨e1, hg _ _ e2, m, e3.at' (ownK h4), e4⟩
    · refine .inr ⟨e1, I, gs, ⟨⟨e2.n0, e2.ob.of_keep (ownK e2), e2.ne⟩, e3⟩, hg _ _ e4, e5, e6.imp id fun q s'' k2 gw => q s'' (fun b hb o ho => k2 b hb o ?_) gw⟩
      rcases hb with rfl | rfl | rfl
      · exact ownK h4 o ho
      · exact ownK e2 o ho
      · exact listK o ho

theorem st_forGen (ih : ExOk W S R N true on es n) (hR : Room A R) (K : EnvOk env) (hes : ∀ x k, kindIn es.names x k = true → env.kindOf x = some k) (F : FS W S true env own ρ s₀ s) {gi : Str} {fg : Addr} {fd : FuncData} (GF : GenFn W gi fg fd)
    (hgi : kindIn es.names gi .globalImplicit = true) (hgd : (gi == ("__debug__" : Str)) = false) {x y : Str} {px p p1 p2 cp : Pos} {body : List Stmt} (hx : nmOk es x = true) {sizes L : List Int} {fin : Bool} (hy : look y ρ = some (.list .shr (sizes.map SV.int))) (hbeh : Beh fin sizes none L)
    (J : Nat → Loc → Prop) (hJ0 : J 0 (dropv x ρ))
    (hturn : ∀ i v ρ', L[i]? = some v → J i ρ' → exs (exE S R true N on es n) body ((x, aI v) :: ρ') (fun ρ'' => (fin = false → i + 1 < L.length) ∧ J (i + 1) (keepv (names (dropv x ρ)) ρ'')) kr)
    (hend : fin = true → ∀ ρ', J L.length ρ' → kn ρ')
    (hn : ∀ s' own' ρ', FS W S true env own' ρ' s₀ s' → kn ρ' → Q .next s')
    (hr : ∀ v s' own' ρ' a, FS W S true env own' ρ' s₀ s' → RRep (Fk W S) own' s₀.heap s'.heap v a → kr a → Q (.ret v) s') :
    wpAny (model W.prog W.w) A (exec (.For (.Name x px) (.Call (.Name gi p1) [.Name y p2] [] cp) body [] p) env) Q E s := by
  obtain ⟨hk, hd⟩ := nmOk_kind hx hes
  have hroom : A.depth < recursionLimit := by have := hR.dp; simp only [recursionLimit]; omega
  obtain ⟨og, hog, hdg⟩ := GF.at'
  obtain ⟨v, rdy, l, rfl, hol, lr⟩ := F.rs.var _ _ hy
  have lr0 := lr
  obtain ⟨items, ⟨nl, hp⟩, reps⟩ := lr
  have hl : s.heap.IsList l items.toArray := ⟨_, hp, rfl, _, rfl⟩
  refine wpAny_For (wpAny_Call_NameR ((show Rd W env s.heap gi (.ref fg) from ⟨hgd, .inr (.inr (.inr (.inl ⟨hes _ _ hgi, GF.val⟩)))⟩).name K F.rs.gw ?_)) (fun _ => rfl)
  refine callee_call (.inr (.inr ⟨fg, og, fd, rfl, hog, hdg⟩)) rfl ?_
  rw [star_plain (e := .Name y p2) (fun _ _ q => nomatch q)]
  refine spliced_cons (rdy.name K F.rs.gw (spliced_nil ⟨F.rs.gw, ?_⟩))
  refine wpAny_call (codeAny_call_generator hroom (F.rs.gw.keep _ _ hog) hdg GF.co GF.gen GF.body' (GF.code.keeps F.rs.gw.keep) ?_)
  rw [GF.bind, GF.clo, GF.gl, GF.bu]
  refine wpAny_pure (wpAny_newFunctionEnv GF.nocell (by intro z hz; simp only [List.mem_cons, List.not_mem_nil, or_false] at hz; subst hz; exact GF.k3) (fun h₁ hn₁ hs₁ => ?_) GF.kind)
  -- the generator stands
  generalize hge : newEnv fd.scope s.heap.objs.size mainGlobals [] (fd.qualname ++ Str.ofString ".<locals>.") (some fg) fd.code none builtinsNs = genv
  have hC : genv.locals = s.heap.objs.size := by rw [← hge]; rfl
  have GK : GenK W genv := by
    refine ⟨⟨by rw [← hge]; exact GF.kind, by rw [← hge]; rfl, by rw [← hge]; rfl, fun z hz => ?_⟩, by rw [← hge]; exact GF.co, by rw [← hge]; exact GF.k1, by rw [← hge]; exact GF.k2, by rw [← hge]; exact GF.k3, by rw [← hge]; exact GF.k4, GF.mx⟩
    exfalso
    have hz' : fd.scope.names.lookup z = some .cell := by rw [← hge] at hz; exact hz
    exact GF.nocell _ (Mine.mem_of_lookup hz') rfl
  have keep₁ : ∀ b o, s.heap.get? b = some o → h₁.get? b = some o := fun b o e => hs₁.extBut b o (Nat.ne_of_lt (lt_of_some e)) (Heap.get?_push_of_some _ e)
  refine ⟨F.rs.gw.nl.keeps keep₁, ?_⟩
  dsimp only
  have sz₁ : h₁.objs.size = s.heap.objs.size + 1 := by rw [hs₁.1, Heap.size_push]
  have ext : ∀ (s' : Shared) (ob : Obj) (tk : Nat), s' = { s with heap := h₁.push ob, toks := tk, gens := s.gens.push (.fresh (.func (fnBody (stAt 3)) genv)) } → ExtU W s s' := by
    rintro s' ob tk rfl
    refine ⟨fun b o _ e => Heap.get?_push_of_some _ (keep₁ b o e), fun t => W.tok _ _ t fun b o e => Heap.get?_push_of_some _ (keep₁ b o e), rfl, fun i z e => ?_, fun e z hz => ?_⟩
    · have hi : i < s.gens.size := (Array.getElem?_eq_some_iff.mp e).1
      show (s.gens.push _)[i]? = some z
      rw [Array.getElem?_push_lt hi]
      rw [Array.getElem?_eq_getElem hi] at e
      exact e
    · rcases Array.mem_push.mp hz with q | q
      · exact e z q
      · subst q; rfl
  have F₂ := F.ext (s' := { s with heap := h₁.push { cls := .type "generator", data := .fields #[.int s.gens.size 0, .str fd.name (s.toks + 1), .str fd.qualname (s.toks + 1 + 1)] }, toks := s.toks + 1 + 1 + 1, gens := s.gens.push (.fresh (.func (fnBody (stAt 3)) genv)) }) (by simp only [Ex, if_true]; exact ext _ _ _ rfl)
  have hag : (h₁.push { cls := .type "generator", data := .fields #[.int s.gens.size 0, .str fd.name (s.toks + 1), .str fd.qualname (s.toks + 1 + 1)] }).IsGen h₁.objs.size s.gens.size := ⟨_, _, _, Heap.get?_push_size _ rfl, rfl, rfl, rfl⟩
  have sg0 : s₀.gens.size ≤ s.gens.size := by
    have x : ExtU W s₀ s := by simpa [Ex] using F.ex
    apply Classical.byContradiction
    intro q
    have h1 : s.gens.size < s₀.gens.size := by omega
    have h2 := x.gens s.gens.size _ (Array.getElem?_eq_getElem h1)
    rw [Array.getElem?_eq_none (Nat.le_refl _)] at h2
    cases h2
  have n0 : s₀.heap.get? genv.locals = none := by
    rw [hC]; exact F.ex.ext.nback F.rs.gw.tok (fresh_top _)
  have hneC : genv.locals ≠ env.locals := by
    obtain ⟨m, hm⟩ := F.loc
    rw [hC]; exact Ne.symm (Nat.ne_of_lt hm.lt)
  have hn₁' : h₁.Ns genv.locals (fun x => [(nGrp, Value.ref l)].reverse.lookup x) := by rw [hC]; exact hn₁
  have st0 : GenSt W A env genv h₁.objs.size s.gens.size l items L fin s₀ 0 { s with heap := h₁.push { cls := .type "generator", data := .fields #[.int s.gens.size 0, .str fd.name (s.toks + 1), .str fd.qualname (s.toks + 1 + 1)] }, toks := s.toks + 1 + 1 + 1, gens := s.gens.push (.fresh (.func (fnBody (stAt 3)) genv)) } := by
    refine ⟨hag, sg0, hl.at fun o e => Heap.get?_push_of_some _ (keep₁ l o e), ⟨⟨n0, ?_, hneC⟩, ?_⟩, .inl ⟨rfl, Array.getElem?_push_size .., _, hn₁'.push _, ?_⟩⟩
    · obtain ⟨o, es', ep, ho, hdd, _⟩ := hn₁'.push { cls := .type "generator", data := .fields #[.int s.gens.size 0, .str fd.name (s.toks + 1), .str fd.qualname (s.toks + 1 + 1)] }
      exact ⟨o, ho, (fun vs q => by rw [hdd] at q; cases q), (fun it k q => by rw [hdd] at q; cases q), (fun w q => by rw [hdd] at q; cases q), .inr fun vs q => by rw [hdd] at q; cases q⟩
    · rw [hC, sz₁]; exact Nat.succ_ne_self _
    · simp
  refine wpAny_pyIter_gen hag ?_
  refine codeAny_forLoop (fun m s' => ∃ i own' ρ', m = L.length + 1 - i ∧ (i < L.length ∨ (i = L.length ∧ fin = true)) ∧ FS W S true env own' ρ' s₀ s' ∧ GenSt W A env genv h₁.objs.size s.gens.size l items L fin s₀ i s' ∧ own' ≠ some l ∧ J i ρ') ?_ (L.length + 1)
    ⟨0, own, _, rfl, ?_, F₂.sub fun z b hz => ?_, st0, hol, hJ0⟩
  · rintro m s' ⟨i, own', ρ', rfl, hi, F', hst, hne, hJ⟩
    refine gen_draw hst F' GK hR.hd hroom hbeh reps hi (fun w t s3 hw F3 hst3 => ?_) (fun hiL s3 F3 => ?_)
    · have hlt : i < L.length := (List.getElem?_eq_some_iff.mp hw).1
      obtain ⟨sb, Fb, hback, hkb, hnb, hbg⟩ := F3.rebase
      refine wpAny_assign_Name (Fb.store K hk hd (a := aI w) (SRep.int _ _) fun s4 F4 _ => ?_)
      have F4' : FS W S true env own' ((x, aI w) :: ρ') sb s4 := F4.sub fun z b hz => by
        rw [look_setv]
        simp only [look] at hz
        exact hz
      refine exs_sound (Q := fun f s5 => match f with | .ret v => Q (.ret v) s5 | _ => True) ih hR K hes (fun v s5 o5 ρ5 b F5 rb kb => ?_) body _ own' s4 _ F4' (hturn i w ρ' hw hJ) (fun s5 o5 ρ5 F5 hk5 => ?_) fun v s5 q => q
      · exact hr v s5 o5 ρ5 b (hback _ _ _ F5) (rb.base hnb) kb
      · obtain ⟨hfin, hJ'⟩ := hk5
        have kp : ∀ b o, s3.heap.get? b = some o → ¬ W.tb b → b ∉ hid env own' → s5.heap.get? b = some o := fun b o ho ht hh => F5.ex.ext.keep b o ht (hkb b o ho hh)
        have x5 : ExtU W sb s5 := by simpa [Ex] using F5.ex
        have gk : ∀ (i : Nat) (z : GenState), s3.gens[i]? = some z → s5.gens[i]? = some z := fun i z hz => x5.gens i z (by rw [hbg]; exact hz)
        refine ⟨L.length + 1 - (i + 1), ns_lt hlt, i + 1, o5, _, rfl, ?_, (hback _ _ _ F5).sub fun z b hz => ?_, hst3.later F3 hne kp gk, fun q => ?_, hJ'⟩
        · cases fin with
          | true => rcases Nat.lt_or_ge (i + 1) L.length with h | h
                    · exact .inl h
                    · exact .inr ⟨by omega, rfl⟩
          | false => exact .inl (hfin rfl)
        · rw [look_keepv] at hz
          split at hz
          · exact hz
          · cases hz
        · have h0 := F5.on _ q
          obtain ⟨ol, hol', hcl, kl, hdl⟩ := hst3.2.2.1
          rw [hkb l ol hol' (F3.notHid hol' (.inr ⟨⟨_, _, hdl⟩, hne⟩))] at h0
          cases h0
    · have hf : fin = true := by
        rcases hi with h | h
        · omega
        · exact h.2
      exact wpAny_execs_nil (hn _ _ _ F3 (hend hf _ (by rw [← hiL]; exact hJ)))
  · cases fin with
    | true => rcases Nat.lt_or_ge 0 L.length with h | h
              · exact .inl h
              · exact .inr ⟨by omega, rfl⟩
    | false => exact .inl (List.length_pos_iff.mpr (hbeh.suffix rfl))
  · rw [look_dropv] at hz
    split at hz
    · cases hz
    · exact hz
end
end
section
open PySem PySem.W PyProof.Rows

theorem pow_pos' (n : Nat) : (0 : Int) < 2 ^ n := Int.pow_pos (by decide)
theorem natCast_pow' (n : Nat) : ((2 ^ n : Nat) : Int) = 2 ^ n := by simp
theorem toNat_pow (n : Nat) : ((2 : Int) ^ n).toNat = 2 ^ n := by
  rw [← natCast_pow', Int.toNat_natCast]
theorem and_low {x : Int} (n : Nat) (h : 0 ≤ x) : Builtin.bitAnd x (2 ^ n - 1) = x % 2 ^ n := by
  have hp := pow_pos' n
  rw [bitAnd_pp h (by omega)]
  have e : ((2 : Int) ^ n - 1).toNat = 2 ^ n - 1 := by
    rw [← natCast_pow' n]
    exact Int.toNat_sub (2 ^ n) 1
  rw [e, Nat.and_two_pow_sub_one_eq_mod]
  rw [Int.natCast_emod, Int.toNat_of_nonneg h, natCast_pow']
theorem nat_and_low (a b n : Nat) (h : b < 2 ^ n) : (a * 2 ^ n) &&& b = 0 := by
  apply Nat.eq_of_testBit_eq
  intro i
  rw [Nat.testBit_and, Nat.zero_testBit]
  by_cases hi : i < n
  · rw [Nat.testBit_mul_two_pow]; simp; omega
  · have : b.testBit i = false := Nat.testBit_lt_two_pow (Nat.lt_of_lt_of_le h (Nat.pow_le_pow_right (by decide) (by omega)))
    simp [this]
theorem nat_and_high (a b n : Nat) (h : b < 2 ^ n) : (a * 2 ^ n + b) &&& (a * 2 ^ n) = a * 2 ^ n := by
  apply Nat.eq_of_testBit_eq
  intro i
  rw [Nat.testBit_and, Nat.mul_comm, Nat.testBit_two_pow_mul_add _ h, Nat.mul_comm, Nat.testBit_mul_two_pow]
  by_cases hi : i < n
  · simp; omega
  · simp [hi]
theorem or_low {x y : Int} (n : Nat) (h : 0 ≤ x) (h0 : 0 ≤ y) (h1 : y < 2 ^ n) : Builtin.bitOr (x * 2 ^ n) y = x * 2 ^ n + y := by
  have hp := pow_pos' n
  have hx : 0 ≤ x * 2 ^ n := Int.mul_nonneg h (by omega)
  rw [bitOr_and, bitAnd_pp hx h0]
  have e : (x * 2 ^ n).toNat = x.toNat * 2 ^ n := by rw [Int.toNat_mul h (by omega), toNat_pow]
  have hy : y.toNat < 2 ^ n := by
    have : ((y.toNat : Nat) : Int) < ((2 ^ n : Nat) : Int) := by rw [natCast_pow', Int.toNat_of_nonneg h0]; exact h1
    exact_mod_cast this
  rw [e, nat_and_low _ _ _ hy]
  simp
theorem xor_low {x : Int} (n : Nat) (h : 0 ≤ x) : Builtin.bitXor x (x / 2 ^ n * 2 ^ n) = x % 2 ^ n := by
  have hp := pow_pos' n
  have hq : 0 ≤ x / 2 ^ n := Int.ediv_nonneg h (by omega)
  have hx : 0 ≤ x / 2 ^ n * 2 ^ n := Int.mul_nonneg hq (by omega)
  rw [bitXor_and, bitAnd_pp h hx]
  have e : (x / 2 ^ n * 2 ^ n).toNat = x.toNat / 2 ^ n * 2 ^ n := by
    rw [Int.toNat_mul hq (by omega), toNat_pow]
    congr 1
    have : (x / 2 ^ n) = ((x.toNat / 2 ^ n : Nat) : Int) := by
      rw [Int.natCast_ediv, Int.toNat_of_nonneg h, natCast_pow']
    rw [this, Int.toNat_natCast]
  have h2 := nat_and_high (x.toNat / 2 ^ n) (x.toNat % 2 ^ n) n (Nat.mod_lt _ (Nat.two_pow_pos n))
  rw [Nat.div_add_mod'] at h2
  rw [e, h2]
  have h3 : ((x.toNat / 2 ^ n * 2 ^ n : Nat) : Int) = x / 2 ^ n * 2 ^ n := by
    rw [Int.natCast_mul, Int.natCast_ediv, Int.toNat_of_nonneg h, natCast_pow']
  rw [h3]
  have := Int.mul_ediv_add_emod x (2 ^ n)
  rw [Int.mul_comm] at this
  omega

/-- a number out of its figures, the lowest first -/
noncomputable def und (n : Nat) : List Int → Int
  | [] => 0
  | d :: r => d + 2 ^ n * und n r
theorem und_append (n : Nat) : ∀ a b : List Int, und n (a ++ b) = und n a + 2 ^ (n * a.length) * und n b
  | [], b => by simp [und]
  | d :: r, b => by
    rw [List.cons_append]
    simp only [und, und_append n r b, List.length_cons]
    rw [Nat.mul_succ, Nat.add_comm (n * r.length) n, Int.pow_add, Int.mul_add, ← Int.mul_assoc]
    omega
/-- the figures of a number -/
noncomputable def dg (n : Nat) (x : Int) (m : Nat) : List Int := (List.range m).map fun i => x / 2 ^ (n * i) % 2 ^ n
theorem dg_len (n : Nat) (x : Int) (m : Nat) : (dg n x m).length = m := by simp [dg]
theorem dg_bound {n : Nat} {x : Int} {m : Nat} {d : Int} (h : d ∈ dg n x m) : 0 ≤ d ∧ d < 2 ^ n := by
  simp only [dg, List.mem_map] at h
  obtain ⟨i, _, rfl⟩ := h
  have hp := pow_pos' n
  exact ⟨Int.emod_nonneg _ (by omega), Int.emod_lt_of_pos _ hp⟩
theorem ediv_ediv' {x a b : Int} (ha : 0 ≤ a) : x / a / b = x / (a * b) := by
  rw [Int.ediv_ediv, if_neg (by omega)]; omega
theorem dg_split (n : Nat) (x : Int) (p q : Nat) : dg n x (p + q) = dg n (x % 2 ^ (n * p)) p ++ dg n (x / 2 ^ (n * p)) q := by
  have hpp : ∀ k : Nat, (0 : Int) < 2 ^ k := pow_pos'
  apply List.ext_getElem
  · simp [dg]
  · intro i h1 h2
    simp only [dg, List.length_map, List.length_range] at h1
    rw [List.getElem_append]
    split
    · rename_i hi
      simp only [dg, List.length_map, List.length_range] at hi
      simp only [dg, List.getElem_map, List.getElem_range]
      -- x / 2^(ni) % 2^n = (x % 2^(np)) / 2^(ni) % 2^n
      have e : n * p = n * i + n * (p - i) := by rw [← Nat.mul_add, Nat.add_sub_cancel' (Nat.le_of_lt hi)]
      have e2 : n * (p - i) = n + n * (p - i - 1) := by
        have : p - i = 1 + (p - i - 1) := by rw [Nat.add_comm]; exact (Nat.sub_add_cancel (Nat.sub_pos_of_lt hi)).symm
        rw [this, Nat.mul_add]; simp
      have k1 : x % 2 ^ (n * p) = x - 2 ^ (n * i) * (2 ^ n * (2 ^ (n * (p - i - 1)) * (x / 2 ^ (n * p)))) := by
        have := Int.mul_ediv_add_emod x (2 ^ (n * p))
        have h : (2 : Int) ^ (n * i) * (2 ^ n * (2 ^ (n * (p - i - 1)) * (x / 2 ^ (n * p)))) = 2 ^ (n * p) * (x / 2 ^ (n * p)) := by
          rw [show (2 : Int) ^ (n * p) = 2 ^ (n * i) * (2 ^ n * 2 ^ (n * (p - i - 1))) by rw [← Int.pow_add, ← Int.pow_add, ← e2, ← e]]
          simp only [Int.mul_assoc]
        omega
      rw [k1]
      have k2 : (x - 2 ^ (n * i) * (2 ^ n * (2 ^ (n * (p - i - 1)) * (x / 2 ^ (n * p))))) / 2 ^ (n * i) = x / 2 ^ (n * i) - 2 ^ n * (2 ^ (n * (p - i - 1)) * (x / 2 ^ (n * p))) := by
        rw [Int.sub_eq_add_neg, ← Int.mul_neg, Int.add_mul_ediv_left _ _ (by have := hpp (n * i); omega)]
        omega
      rw [k2, Int.sub_eq_add_neg, ← Int.mul_neg, Int.add_mul_emod_self_left]
    · rename_i hi
      simp only [dg, List.length_map, List.length_range] at hi
      simp only [dg, List.getElem_map, List.getElem_range, List.length_map, List.length_range]
      rw [ediv_ediv' (by have := hpp (n * p); omega)]
      congr 2
      rw [← Int.pow_add, ← Nat.mul_add]
      congr 2
      omega
theorem dg_one {n : Nat} {x : Int} (h0 : 0 ≤ x) (h1 : x < 2 ^ n) : dg n x 1 = [x] := by
  simp [dg, List.range_succ, Int.emod_eq_of_lt h0 h1]
end
section
open PySem PySem.W PyProof.Rows PySem.Calls PyProof.V PySem.Spec PySem.SeqAt

structure NestOk (W : Wd) (c P : Addr) (pos : Pos) (q : Str) : Prop where
  tbP : W.tb P
  at' : ∀ h, W.TOk h → ∃ ps, h.get? P = some (tabObj ps) ∧ (ps = #[] ∨ ∃ c', ps = #[rawInt pos.line, rawInt pos.col, .ref c'] ∧ h.CodeRec (.ref c') q)
  upd : ∀ h h' c', W.TOk h → Heap.ExtBut P h h' → h'.get? P = some (tabObj #[rawInt pos.line, rawInt pos.col, .ref c']) → h'.CodeRec (.ref c') q → W.TOk h'
  cd : CodeHd W.g c P
  bm : ∃ bm ob, W.mg "__builtins__" = some (.ref bm) ∧ bm ≠ builtinsNs ∧ bm ≠ mainGlobals ∧ bm ≠ P ∧ W.g.get? bm = some ob ∧ ob.cls = .type "module" ∧ ob.dict = some builtinsNs ∧ ob.data = .plain

theorem CodeRec.ext' {W : Wd} {s s' : Shared} {cd : Value} {q : Str} (x : s.heap.CodeRec cd q) (t : W.TOk s.heap) (e : ExtU W s s') : s'.heap.CodeRec cd q := by
  obtain ⟨c, o, vs, tt, rfl, ho, hd, hv⟩ := x
  refine ⟨c, o, vs, tt, rfl, e.keep c o (fun hb => ?_) ho, hd, hv⟩
  obtain ⟨ps, hp⟩ := W.tin _ t c hb
  rw [ho] at hp; cases hp
  cases hd
  exact W.tns _ _ _ t hb ho _ _ hv

section
variable {W : Wd} {S : Nat → Sig} {A : Around} {env : Env} {own : Option Addr} {s₀ s : Shared} {ρ : Loc} {E : Value → Shared → Prop} {Q : Flow → Shared → Prop}

/-- a def within a body: the function stands, and its code -/
theorem nest_def (F : FS W S true env own ρ s₀ s) (K : EnvOk env) {c P : Addr} {pos : Pos} {q name : Str} {params : Arguments} {body : List Stmt} {scope : Scope} {clos : List (Str × Addr)} (NO : NestOk W c P pos q) (hcode : env.code = .ref c)
    (hq : qualnameIn env name name = q) (hcl : closureFor scope env = pure clos) (hk : env.kindOf name = some .local ∨ env.kindOf name = some .cell) (hd : (name == ("__debug__" : Str)) = false)
    (h1 : params.defaults = []) (h2 : params.kw_defaults = []) (h3 : annTrees params none env = [])
    (hQ : ∀ f c' ctv doc pm s', FS W S true env own (setv name (.obj f) ρ) s₀ s' → s'.heap.get? f = some { cls := .type "function", data := .func (fnX name q params body scope clos .none .none doc pm none (.ref c') ctv) } →
      s'.heap.CodeRec (.ref c') q → s₀.heap.get? f = none → Q .next s') :
    wpAny (model W.prog W.w) A (exec (.FunctionDef name params body [] none [] scope none name pos) env) Q E s := by
  refine nestDef_K h1 h2 h3 ?_
  rw [hq]
  obtain ⟨ps, hP, hps⟩ := NO.at' _ F.rs.gw.tok
  obtain ⟨bm, ob, b1, b2, b3, b4, b5, b6, b7, b8⟩ := NO.bm
  have hB : s.heap.BuiltinsAt W.mg P := ⟨bm, ob, b1, b2, b3, b4, F.rs.gw.keep _ _ b5, b6, b7, b8⟩
  have hgP : mainGlobals ≠ P := by
    rintro rfl
    obtain ⟨o, es, ep, e1, _⟩ := W.hg
    exact W.tbg _ _ e1 NO.tbP
  have hC := NO.cd.keeps F.rs.gw.keep
  -- what is behind, once the function is made
  have fin : ∀ (c' : Addr) (ctv doc : Value) (h' : Heap) (tk : Nat), (∀ b o, ¬ W.tb b → s.heap.get? b = some o → h'.get? b = some o) → W.TOk h' → h'.CodeRec (.ref c') q → s.heap.objs.size ≤ h'.objs.size →
      wpAny (model W.prog W.w) A (storeName env name (.ref h'.objs.size)) (fun _ s'' => Q .next s'') E
        { s with heap := h'.push { cls := .type "function", data := .func (fnX name q params body scope clos .none .none doc ((W.mg "__name__").getD .none) none (.ref c') ctv) }, toks := tk } := by
    intro c' ctv doc h' tk hkeep htok hrec hsz
    have e1 : Ex W true s { s with heap := h'.push { cls := .type "function", data := .func (fnX name q params body scope clos .none .none doc ((W.mg "__name__").getD .none) none (.ref c') ctv) }, toks := tk } := by
      simp only [Ex, if_true]
      exact ⟨fun b o hb e => Heap.get?_push_of_some _ (hkeep b o hb e), fun _ => W.tok _ _ htok fun b o e => Heap.get?_push_of_some _ e, rfl, fun _ _ e => e, fun e => e⟩
    have F1 := F.ext e1
    have hf1 : (h'.push { cls := .type "function", data := .func (fnX name q params body scope clos .none .none doc ((W.mg "__name__").getD .none) none (.ref c') ctv) }).get? h'.objs.size = some { cls := .type "function", data := .func (fnX name q params body scope clos .none .none doc ((W.mg "__name__").getD .none) none (.ref c') ctv) } := Heap.get?_push_size _ rfl
    have hf0 : s.heap.get? h'.objs.size = none := Heap.get?_none_of_le hsz
    have hn0 := F.ex.ext.nback F.rs.gw.tok hf0
    obtain ⟨sb, Fb, hback, hkb, hnb, _⟩ := F1.rebase
    refine Fb.store K hk hd (a := .obj h'.objs.size) rfl fun s3 F3 _ => ?_
    have hh : h'.objs.size ∉ hid env own := by
      intro hm
      rcases mem_hid.mp hm with q | q | ⟨x, hk, hc⟩
      · obtain ⟨m, hm⟩ := F.loc
        have := hm.lt
        rw [← q] at this
        exact Nat.lt_irrefl _ (Nat.lt_of_lt_of_le this hsz)
      · obtain ⟨o, _, _, ho, _⟩ := F.rs.ow _ q
        rw [hf0] at ho; cases ho
      · obtain ⟨d, v, e1, ⟨o, e2, _⟩, _⟩ := F.cell x hk
        rw [hc] at e1; cases e1
        rw [hf0] at e2; cases e2
    have hcr : sb.heap.CodeRec (.ref c') q := by
      obtain ⟨c1, o, vs, tt, e1, e2, e3, e4⟩ := hrec
      cases e1
      refine ⟨c', o, vs, tt, rfl, hkb c' o (Heap.get?_push_of_some _ e2) ?_, e3, e4⟩
      exact F1.notHid (Heap.get?_push_of_some _ e2) (.inl ⟨_, e3⟩)
    have hcr3 : s3.heap.CodeRec (.ref c') q := by
      obtain ⟨c1, o, vs, tt, e1, e2, e3, e4⟩ := hcr
      cases e1
      have e2' : (h'.push { cls := .type "function", data := .func (fnX name q params body scope clos .none .none doc ((W.mg "__name__").getD .none) none (.ref c') ctv) }).get? c' = some o := by
        obtain ⟨c2, o2, vs2, tt2, g1, g2, g3, g4⟩ := hrec
        cases g1
        have := hkb c' o2 (Heap.get?_push_of_some _ g2) (F1.notHid (Heap.get?_push_of_some _ g2) (.inl ⟨_, g3⟩))
        rw [e2] at this; cases this
        exact Heap.get?_push_of_some _ g2
      refine ⟨c', o, vs, tt, rfl, F3.ex.ext.keep c' o (fun hb => ?_) e2, e3, e4⟩
      obtain ⟨ps, hp⟩ := W.tin _ F1.rs.gw.tok c' hb
      rw [show ({ s with heap := h'.push _, toks := tk } : Shared).heap.get? c' = _ from e2'] at hp
      cases hp; cases e3
      exact W.tns _ _ _ F1.rs.gw.tok hb e2' _ _ e4
    exact hQ _ c' ctv doc _ s3 (hback _ _ _ F3) (F3.ex.ext.keep _ _ (TOk.notTb F1.rs.gw.tok hf1 nofun) (hkb _ _ hf1 hh)) hcr3 hn0
  rcases hps with rfl | ⟨c', rfl, hrec⟩
  · refine makeFunction_K hcl K.glob F.rs.gw.ns hcode hC hP (by exact True.intro) rfl hgP hB fun c' ctv doc h' tk hx hge hlt hrec htab => ?_
    refine fin c' ctv doc h' tk (fun b o hb e => hx b o (by rintro rfl; exact hb NO.tbP) e) (NO.upd _ _ c' F.rs.gw.tok hx htab hrec) hrec (Nat.le_of_lt (Nat.lt_of_le_of_lt hge hlt))
  · refine makeFunction_hit hcl K.glob F.rs.gw.ns hcode hC hP (by simp [TriplesOk, rawInt]) (cv := .ref c') (by simp [codeAmong, rawInt]) hB fun ctv doc h' tk hk hsz => ?_
    exact fin c' ctv doc h' tk (fun b o _ e => hk b o e) (W.tok _ _ F.rs.gw.tok hk) (hrec.keeps hk) hsz
end
end
section
open PySem PySem.W PyProof.Rows PySem.Calls PyProof.V PySem.Spec PySem.SeqAt

theorem closure_ok2 {env : Env} {sc : Scope} (h : ∀ y ∈ sc.names, y.2 = .free → ∃ c, env.cells.lookup y.1 = some c) :
    ∃ cl, closureFor sc env = pure cl ∧ (∀ x c, (x, NameKind.free) ∈ sc.names → env.cells.lookup x = some c → cl.lookup x = some c) ∧ ∀ x c, cl.lookup x = some c → env.cells.lookup x = some c := by
  obtain ⟨cl, e, h1, h2⟩ := closure_go sc.names [] h
  refine ⟨cl, ?_, fun x c hx hc => ?_, fun x c hc => ?_⟩
  · unfold closureFor
    have e' : (forIn sc.names ([] : List (Str × Addr)) (fun x r => match x with
        | (name, kind) => if (kind == NameKind.free) = true then (do let c ← cellOf env name; pure (ForInStep.yield ((name, c) :: r))) else pure (ForInStep.yield r)) : Sem (List (Str × Addr))) = pure cl := e
    first
      | (simp only [e', pure_bind]; rfl)
      | exact (congrArg (fun t : Sem (List (Str × Addr)) => t >>= fun cs => pure cs) e').trans rfl
  · have hs := h2 x (.inl hx)
    obtain ⟨d, hd⟩ := Option.isSome_iff_exists.mp hs
    rcases h1 x d (Mine.mem_of_lookup hd) with q | q
    · cases q
    · rw [hc] at q; cases q; exact hd
  · rcases h1 x c (Mine.mem_of_lookup hc) with q | q
    · cases q
    · exact q

noncomputable abbrev hidD (s : Shared) (D : Addr) : Shared := { s with heap := hideAll s.heap [D] }

section
variable {W : Wd} {S : Nat → Sig} {R N : Nat} {u : Bool} {on : Str} {es : Scope} {n : Nat} {A : Around} {env : Env} {own : Option Addr} {s₀ s s' : Shared} {ρ : Loc} {E : Value → Shared → Prop} {Q : Flow → Shared → Prop} {kn : Loc → Prop} {kr : AV → Prop}

theorem exs_soundA (ih : ExOk W S R N u on es n) (hR : Room A R) (K : EnvOk env)
    (hes : ∀ x k, kindIn es.names x k = true → env.kindOf x = some k) (more : List Stmt) :
    ∀ (sts : List Stmt) (ρ : Loc) (own : Option Addr) (s : Shared), FS W S u env own ρ s₀ s → exs (exE S R u N on es n) sts ρ kn (fun _ => False) → (∀ s' own' ρ', FS W S u env own' ρ' s₀ s' → kn ρ' → wpAny (model W.prog W.w) A (execs more env) Q E s') →
      wpAny (model W.prog W.w) A (execs (sts ++ more) env) Q E s
  | [], ρ, own, s, F, h, hn => hn _ _ _ F h
  | st :: rest, ρ, own, s, F, h, hn => by
    refine wpAny_execs_cons (ih ρ st _ (fun _ => False) A env own s₀ s _ E hR K hes F h (fun s' own' ρ' F' hk => ?_) fun v s' own' ρ' a F' ra ka => ka.elim)
    exact exs_soundA ih hR K hes more rest ρ' own' s' F' hk hn

theorem TOk.hide {D : Addr} {o : Obj} (t : W.TOk s.heap) (ho : s.heap.get? D = some o) (hm : Mut o) : W.TOk (hidD s D).heap :=
  W.tom2 _ _ t fun b ob hb hn => hideAll_get _ hb (by
    intro q
    simp only [List.mem_cons, List.not_mem_nil, or_false] at q
    subst q
    rw [ho] at hb; cases hb; exact hn hm)
theorem hid_get {D b : Addr} {o : Obj} (h : s.heap.get? b = some o) (hne : b ≠ D) : (hidD s D).heap.get? b = some o := hideAll_get _ h (by simpa using hne)
theorem hid_none {D : Addr} : (hidD s D).heap.get? D = none := hideAll_none _ (by simp)

/-- another frame has stored into the own list -/
theorem FS.outD (F : FS W S true env own ρ s₀ s) {D : Addr} (hD : own = some D) (e : ExtU W (hidD s D) s') {x : Str} {vs ws : List SV} (hx : look x ρ = some (.list .own vs)) (hno : noOwnBut x ρ = true) (hnew : LRep s'.heap D ws) :
    FS W S true env own (setv x (.list .own ws) ρ) s₀ s' := by
  obtain ⟨l, hl, rdx, lr⟩ := F.ownAt hx
  rw [hD] at hl; cases hl
  obtain ⟨oD, it, k, hoD, hcD, hdD⟩ := lr.obj
  have hm : Mut oD := fun fs hfs => by rw [hdD] at hfs; cases hfs
  have tok' : W.TOk s'.heap := e.tok (TOk.hide F.rs.gw.tok hoD hm)
  have keep : ∀ b o, ¬ W.tb b → b ≠ D → s.heap.get? b = some o → s'.heap.get? b = some o := fun b o hb hne ho => e.keep b o hb (hid_get ho hne)
  have nsK : ∀ L m, s.heap.Ns L m → s'.heap.Ns L m := fun L m hm => by
    obtain ⟨o', es, ep, h1, h2, h3⟩ := hm
    refine ⟨o', es, ep, keep _ _ (notTb F.rs.gw.tok h1 h2) ?_ h1, h2, h3⟩
    rintro rfl
    rw [hoD] at h1; cases h1; rw [hdD] at h2; cases h2
  have cellK : ∀ d w, s.heap.IsCell d w → s'.heap.IsCell d w := fun d w hd => by
    obtain ⟨o, h1, h2⟩ := hd
    refine ⟨o, keep _ _ (notTbC F.rs.gw.tok h1 h2) ?_ h1, h2⟩
    rintro rfl
    rw [hoD] at h1; cases h1; rw [hdD] at h2; cases h2
  have hD0 := F.on D hD
  refine ⟨⟨⟨fun b o hb => keep b o (W.tbg b o hb) (by rintro rfl; have := F.gk _ _ hb; rw [hD0] at this; cases this) (F.rs.gw.keep b o hb), tok'⟩, fun y b hy => ?_, fun l' hl' => ?_⟩, F.gk, ?_, let ⟨m, h⟩ := F.loc; ⟨m, nsK _ _ h⟩, F.ln, fun y hy => let ⟨c, w, h1, h2, h3⟩ := F.cell y hy; ⟨c, w, h1, cellK _ _ h2, h3⟩, F.apart, F.on⟩
  · rw [look_setv] at hy
    by_cases hyx : y = x
    · rw [if_pos hyx, Option.some.injEq] at hy
      subst hyx; subst hy
      exact ⟨.ref D, rdx.step (fun m hm => nsK _ _ hm) cellK, D, rfl, hD, hnew⟩
    · rw [if_neg hyx] at hy
      obtain ⟨w, rd, vr⟩ := F.rs.var y b hy
      refine ⟨w, rd.step (fun m hm => nsK _ _ hm) cellK, ?_⟩
      cases b with
      | list t zs => cases t with
        | tmp => exact vr
        | own => exact absurd hy (noOwnBut_look hno hyx)
        | shr =>
          obtain ⟨l₁, rfl, q, z⟩ := vr
          refine ⟨l₁, rfl, q, z.at1 fun o ho => ?_⟩
          refine keep _ _ (fun hb => z.not_tb F.rs.gw.tok hb) ?_ ho
          rintro rfl; exact q hD
      | _ => exact vr
  · rw [hD] at hl'; cases hl'
    obtain ⟨o, it, n, h1, h2, h3⟩ := hnew.obj
    exact ⟨o, it, n, h1, h2, h3⟩
  · have x' : ExtU W s₀ s := by simpa [Ex] using F.ex
    simp only [Ex, if_true]
    exact ⟨fun b o hb ho => keep b o hb (by rintro rfl; rw [hD0] at ho; cases ho) (x'.keep b o hb ho), fun _ => tok', e.os.trans x'.os, fun i z hz => e.gens i z (x'.gens i z hz), fun hb => e.bare (x'.bare hb)⟩
where
  notTb {h : Heap} (t : W.TOk h) {b : Addr} {o : Obj} {es : Array DictEntry} {ep : Nat} (ho : h.get? b = some o) (hd : o.data = .dict es ep) : ¬ W.tb b := fun hb => by
    obtain ⟨ps, hp⟩ := W.tin _ t b hb
    rw [ho] at hp; cases hp; cases hd
  notTbC {h : Heap} (t : W.TOk h) {b : Addr} {o : Obj} {v : Option Value} (ho : h.get? b = some o) (hd : o.data = .cell v) : ¬ W.tb b := fun hb => by
    obtain ⟨ps, hp⟩ := W.tin _ t b hb
    rw [ho] at hp; cases hp; cases hd
end
end
section
open PySem PySem.W PyProof.Rows PySem.Calls PyProof.V PySem.Spec PySem.SeqAt

noncomputable abbrev nm (s : String) : Str := Str.ofString s
noncomputable def noSig : Sig := ⟨0, false, fun _ _ => False⟩
noncomputable def nS : Nat → Sig := fun _ => noSig
noncomputable def nestSt (i j : Nat) : Stmt := (fnBody (stAt i)).getD j (.Pass ⟨0,0,0,0⟩)

structure InnK (W : Wd) (f : Addr) (fd : FuncData) (i j : Nat) (ps : List Str) : Prop where
  sc : fd.scope = fnScope (nestSt i j)
  co : fd.scope.isCoroutine = false
  gen : fd.scope.isGenerator = false
  kind : fd.scope.kind = .function
  body' : fd.body = .stmts (fnBody (nestSt i j))
  gl : fd.globals = mainGlobals
  bu : fd.builtins = builtinsNs
  apart : ∀ x y c, fd.closure.lookup x = some c → fd.closure.lookup y = some c → x = y
  bind : ∀ vs : List Value, vs.length = ps.length → bindArgs fd ⟨vs, []⟩ = pure (ps.zip vs)
structure InnAt (W : Wd) (f : Addr) (fd : FuncData) (s : Shared) : Prop where
  gw : GW W s.heap
  fo : ∃ o, s.heap.get? f = some o ∧ o.data = .func fd ∧ o.cls ≠ .none
  code : s.heap.CodeRec fd.code fd.qualname

section
variable {W : Wd} {A : Around} {s s' : Shared} {E : Value → Shared → Prop} {f D : Addr} {fd : FuncData}
theorem kept {o : Obj} {b : Addr} (t : W.TOk s.heap) (e : ExtU W (hidD s D) s') (h : s.heap.get? b = some o) (hne : b ≠ D) (hc : o.cls ≠ .none ∨ ∀ vs, o.data ≠ .fields vs) : s'.heap.get? b = some o :=
  e.keep b o (fun hb => by
    obtain ⟨ps, hp⟩ := W.tin _ t b hb
    rw [h] at hp; cases hp
    rcases hc with q | q
    · exact q rfl
    · exact q _ rfl) (hid_get h hne)
theorem InnAt.later (x : InnAt W f fd s) {vs : List SV} (hD : LRep s.heap D vs) (hg : W.g.get? D = none) (e : ExtU W (hidD s D) s') : InnAt W f fd s' := by
  obtain ⟨oD, it, k, hoD, hcD, hdD⟩ := hD.obj
  have hm : Mut oD := fun fs hfs => by rw [hdD] at hfs; cases hfs
  have tok' : W.TOk s'.heap := e.tok (TOk.hide x.gw.tok hoD hm)
  refine ⟨⟨fun b o hb => e.keep b o (W.tbg b o hb) (hid_get (x.gw.keep b o hb) (by rintro rfl; rw [hg] at hb; cases hb)), tok'⟩, ?_, ?_⟩
  · obtain ⟨o, h1, h2, h3⟩ := x.fo
    exact ⟨o, kept x.gw.tok e h1 (by rintro rfl; rw [hoD] at h1; cases h1; rw [hdD] at h2; cases h2) (.inl h3), h2, h3⟩
  · obtain ⟨c, o, vs, t, hc, h1, h2, h3⟩ := x.code
    refine ⟨c, o, vs, t, hc, e.keep c o (fun hb => ?_) (hid_get h1 (by rintro rfl; rw [hoD] at h1; cases h1; rw [hdD] at h2; cases h2)), h2, h3⟩
    obtain ⟨ps, hp⟩ := W.tin _ x.gw.tok c hb
    rw [h1] at hp; cases hp; cases h2
    exact W.tns _ _ _ x.gw.tok hb h1 _ _ h3
theorem cell_later {c : Addr} {v : Option Value} (t : W.TOk s.heap) {vs : List SV} (hD : LRep s.heap D vs) (e : ExtU W (hidD s D) s') (h : s.heap.IsCell c v) : s'.heap.IsCell c v := by
  obtain ⟨oD, it, k, hoD, hcD, hdD⟩ := hD.obj
  obtain ⟨o, h1, h2⟩ := h
  exact ⟨o, kept t e h1 (by rintro rfl; rw [hoD] at h1; cases h1; rw [hdD] at h2; cases h2) (.inr fun vs q => by rw [h2] at q; cases q), h2⟩

/-- a call of a made function: its frame stands, the list D its own -/
theorem inn_entry {i j : Nat} {ps : List Str} (K : InnK W f fd i j ps) {r : Nat} (hR : Room A (r + 1)) (x : InnAt W f fd s) {vals : List Value} (hl : vals.length = ps.length) (hnd : ps.Nodup) {dvs : List SV} (hD : LRep s.heap D dvs) (hgD : W.g.get? D = none) {ρ : Loc}
    (hnc : ∀ y ∈ fd.scope.names, y.2 ≠ .cell) (hloc : ∀ y ∈ ps, fd.scope.names.lookup y = some .local)
    (hρ : ∀ y a, look y ρ = some a → (y == ("__debug__" : Str)) = false ∧ ∃ v, VRep (Fk W nS) (some D) s.heap v a ∧ ((y, v) ∈ ps.zip vals ∧ fd.scope.names.lookup y = some .local ∨
      (fd.scope.names.lookup y = some .free ∧ (y == ("__classdict__" : Str)) = false ∧ ∃ c, fd.closure.lookup y = some c ∧ s.heap.IsCell c (some v))))
    {Q : Value → Shared → Prop} (h : ∀ (env : Env) (s₁ : Shared) (E' : Value → Shared → Prop), Room (A.deeper env) r → EnvOk env → (∀ x k, kindIn fd.scope.names x k = true → env.kindOf x = some k) → env.cells = fd.closure → FS W nS true env (some D) ρ (hidD s D) s₁ →
      wpAny (model W.prog W.w) (A.deeper env) (execs (fnBody (nestSt i j)) env) (fun fl s' => Q (match fl with | .ret v => v | _ => .none) s') E' s₁) :
    wpAny (model W.prog W.w) A (call (.ref f) vals) Q E s := by
  obtain ⟨o, hf, hd, hcf⟩ := x.fo
  refine wpAny_call (codeAny_call_def (binds := ps.zip vals) (by have := hR.dp; simp only [recursionLimit]; omega) hf hd x.gw.nl x.code K.body' (.of_eq (K.bind _ hl)) hnc (fun y hy => hloc _ (List.of_mem_zip hy).1) (fun h₀ hns hk => ?_) K.co K.gen K.kind)
  generalize he : callEnv fd s.heap.objs.size f = env
  have hsc : env.scope = fd.scope := by rw [← he]; rfl
  have hco : ∀ y, env.kindOf y = fd.scope.names.lookup y := fun y => by rw [← he]; rfl
  have hcells : env.cells = fd.closure := by rw [← he]; rfl
  have hlocs : env.locals = s.heap.objs.size := by rw [← he]; rfl
  have hgl : env.globals = mainGlobals := by rw [← he]; exact K.gl
  have hbu : env.builtins = builtinsNs := by rw [← he]; exact K.bu
  have noCell : ∀ y, env.kindOf y ≠ some .cell := fun y hy => by
    rw [hco] at hy
    exact hnc _ (Mine.mem_of_lookup hy) rfl
  have Ke : EnvOk env := ⟨by rw [hsc]; exact K.kind, hgl, hbu, fun y hy => absurd hy (noCell y)⟩
  obtain ⟨oD, it, k, hoD, hcD, hdD⟩ := hD.obj
  have keepH : ∀ b o, (hidD s D).heap.get? b = some o → h₀.get? b = some o := fun b o hb => hk b o (of_hideAll _ hb)
  have e1 : Ex W true (hidD s D) { s with heap := h₀, toks := s.toks + (ps.zip vals).length } := .of_keeps ⟨h₀, _, rfl, keepH⟩
  have tk1 : W.TOk h₀ := W.tok _ _ x.gw.tok hk
  have kIn : ∀ b o, s.heap.get? b = some o → h₀.get? b = some o := hk
  refine wpAny_mono (h env _ _ (hR.deeper (by rw [hsc]; exact K.gen) (by rw [hsc]; exact K.co) hbu hgl) Ke (fun y kd hy => by rw [hco]; exact kindIn_iff.mp hy) hcells ?_) (fun fl s' q => q) fun _ _ q => q
  refine ⟨⟨⟨fun b o hb => kIn b o (x.gw.keep b o hb), tk1⟩, fun y a hy => ?_, fun l hl => ?_⟩, fun b o hb => hid_get (x.gw.keep b o hb) (by rintro rfl; rw [hgD] at hb; cases hb), e1, ⟨_, by rw [hlocs]; exact hns⟩, ?_, fun y hy => absurd hy (noCell y), ?_, fun l hl => ?_⟩
  · obtain ⟨hdb, v, vr, hv⟩ := hρ y a hy
    refine ⟨v, ⟨hdb, ?_⟩, ?_⟩
    · rcases hv with ⟨hm, hk1⟩ | ⟨hk1, hcd, c, hc, hcell⟩
      · refine .inl ⟨by rw [hco]; exact hk1, _, by rw [hlocs]; exact hns, ?_⟩
        have hn : ((ps.zip vals).map (·.1)).Nodup := by rw [List.map_fst_zip (by omega)]; exact hnd
        have lk : ∀ {l : List (Str × Value)} {y : Str} {a : Value}, (l.map (·.1)).Nodup → (y, a) ∈ l → l.reverse.lookup y = some a := by
          intro l y a h1 h2
          have h3 : ∀ {l : List (Str × Value)} {y : Str} {a : Value}, (l.map (·.1)).Nodup → (y, a) ∈ l → l.lookup y = some a := by
            intro l
            induction l with
            | nil => intro y a _ h2; cases h2
            | cons z r ih =>
              intro y a h1 h2
              obtain ⟨z, b⟩ := z
              simp only [List.map_cons, List.nodup_cons] at h1
              rw [List.lookup_cons]
              rcases List.mem_cons.mp h2 with e | h2
              · cases e; simp
              · have hne : y ≠ z := fun q => h1.1 (List.mem_map.mpr ⟨(y, a), h2, q⟩)
                have hb : (y == z) = false := by simpa using hne
                rw [hb]; exact ih h1.2 h2
          exact h3 (by rw [List.map_reverse]; exact nodup_rev h1) (List.mem_reverse.mpr h2)
        exact lk hn hm
      · exact .inr (.inr (.inl ⟨by rw [hco]; exact hk1, hcd, c, by rw [hcells]; exact hc, hcell.keeps kIn⟩))
    · have hl : ∀ {l ws}, LRep s.heap l ws → LRep h₀ l ws := fun {l ws} q => q.at1 fun o ho => kIn _ _ ho
      cases a with
      | list t zs => cases t with
        | tmp => exact vr
        | own => obtain ⟨l₁, h1, q, z⟩ := vr; exact ⟨l₁, h1, q, hl z⟩
        | shr => obtain ⟨l₁, h1, q, z⟩ := vr; exact ⟨l₁, h1, q, hl z⟩
      | _ => exact vr
  · cases hl
    exact ⟨oD, it, k, kIn _ _ hoD, hcD, hdD⟩
  · rw [hlocs]
    exact Heap.get?_none_of_le (by rw [hideAll_size]; exact Nat.le_refl _)
  · intro y z c h1 h2
    rw [hcells] at h1 h2
    exact K.apart _ _ _ h1 h2
  · cases hl; exact hid_none
end
end
section
open PySem PySem.W PyProof.Rows
noncomputable abbrev intBits (x : Int) : Nat := Builtin.Int.intBits x
theorem ib_le {x : Int} {m : Nat} (h0 : 0 ≤ x) : intBits x ≤ m ↔ x < 2 ^ m := by
  unfold intBits
  rw [PySem.intBits_le_iff, ← natCast_pow']
  omega
theorem ib_lt {x : Int} (h0 : 0 ≤ x) : x < 2 ^ intBits x := (ib_le h0).mp (Nat.le_refl _)
theorem ib_mono {x y : Int} {m : Nat} (h0 : 0 ≤ x) (h : x ≤ y) (hy : intBits y ≤ m) : intBits x ≤ m := by
  rw [ib_le (by omega)] at *; omega
theorem ib_div {x y : Int} {m : Nat} (h0 : 0 ≤ x) (hy : 0 ≤ y) (h : intBits x ≤ m) : intBits (x / y) ≤ m := by
  refine ib_mono (Int.ediv_nonneg h0 hy) (Int.ediv_le_self _ h0) h
theorem ib_cast {n m : Nat} (h : n < 2 ^ m) : intBits (n : Int) ≤ m := by
  rw [ib_le (by omega), ← natCast_pow']; exact_mod_cast h
theorem ib_small {x : Int} {m : Nat} (h0 : 0 ≤ x) (h : x < 2 ^ m) : intBits x ≤ m := (ib_le h0).mpr h
theorem ib_pow (k : Nat) : intBits (2 ^ k) ≤ k + 1 := by
  rw [ib_le (by have := pow_pos' k; omega), Int.pow_succ]; have := pow_pos' k; omega
theorem ib_mul {x y : Int} {m n : Nat} (hx : intBits x ≤ m) (hy : intBits y ≤ n) : intBits (x * y) ≤ m + n := PySem.intBits_mul_le hx hy
theorem ib_add {x y : Int} {m n : Nat} (hx : intBits x ≤ m) (hy : intBits y ≤ n) : intBits (x + y) ≤ max m n + 1 := PySem.intBits_add_le hx hy
theorem ib_sub {x y : Int} {m n : Nat} (hx : intBits x ≤ m) (hy : intBits y ≤ n) : intBits (x - y) ≤ max m n + 1 := PySem.intBits_sub_le hx hy
theorem fd_pow {x : Int} (k : Nat) : x.fdiv (2 ^ (k : Int).toNat) = x / 2 ^ k := by
  rw [Int.toNat_natCast, Int.fdiv_eq_ediv_of_nonneg _ (by have := pow_pos' k; omega)]
theorem ib_neg {x : Int} {m : Nat} (h : intBits x ≤ m) : intBits (-x) ≤ m := by
  unfold intBits at *
  rw [PySem.intBits_le_iff] at *
  rw [Int.natAbs_neg]; exact h
theorem lt27 {m : Nat} (h : m ≤ 2 ^ 27) : (m : Int) ≤ 2 ^ 27 := by
  have : (m : Int) ≤ ((2 ^ 27 : Nat) : Int) := by exact_mod_cast h
  exact Int.le_trans this (by decide)
end
section
open PySem PySem.W PyProof.Rows PySem.Calls PyProof.V PySem.Spec PySem.SeqAt

theorem evs_keep {F : Nat → Value → Prop} {own : Option Addr} {h₀ h : Heap} {vs as} {ws : List SV} (x : RReps F own h₀ h vs as) (e : scs as = some ws) : Reps vs ws := scs_reps x e
section
variable {W : Wd} {S : Nat → Sig} {R N n : Nat} {es : Scope} {A : Around} {env : Env} {own : Option Addr} {s₀ s s' : Shared} {ρ : Loc} {E : Value → Shared → Prop} {f D : Addr} {fd : FuncData}
theorem InnAt.ext (x : InnAt W f fd s) (e : ExtU W s s') : InnAt W f fd s' := by
  refine ⟨x.gw.ext e, ?_, CodeRec.ext' x.code x.gw.tok e⟩
  obtain ⟨o, h1, h2, h3⟩ := x.fo
  exact ⟨o, keepObj e x.gw.tok h1 h3, h2, h3⟩
/-- a made function called by its name -/
theorem inn_ev (hR : Room A R) (K : EnvOk env) (hes : ∀ x k, kindIn es.names x k = true → env.kindOf x = some k) (F : RS W S env own ρ s.heap) (x : InnAt W f fd s) {nf : Str} {p q : Pos} {a0 : Expr} {args : List Expr}
    (hl : look nf ρ = some (.obj f)) (hn : noStar (a0 :: args) = true) {P : List SV → Prop} (hev : evs (evE S R n true es ρ) (a0 :: args) fun as => ∃ vs, scs as = some vs ∧ P vs) {Q : Value → Shared → Prop}
    (hc : ∀ s' vals vs, Ex W true s s' → Reps vals vs → P vs → wpAny (model W.prog W.w) A (call (.ref f) vals) Q E s') :
    wpAny (model W.prog W.w) A (eval (.Call (.Name nf p) (a0 :: args) [] q) env) Q E s := by
  obtain ⟨v, rd, vr⟩ := F.var _ _ hl
  cases vr
  obtain ⟨o, h1, h2, h3⟩ := x.fo
  refine wpAny_Call_NameR (rd.name K F.gw ?_)
  refine PyProof.Rows.callWith_def h2 (evs_sound (ev_all W S R n).1 hR K hes _ _ s _ F hn hev fun vs s₂ as hx₂ rs hk₂ => ?_) (star_plain (noStar_head hn).1)
  obtain ⟨ws, e1, e2⟩ := hk₂
  exact ⟨(keepObj hx₂.ext F.gw.tok h1 h3), hc s₂ vs ws hx₂ (evs_keep rs e1) e2⟩
end

structure I2 (W : Wd) (f D cA cN cI : Addr) (fd : FuncData) (n : Int) (s : Shared) : Prop where
  at' : InnAt W f fd s
  gD : W.g.get? D = none
  kA : s.heap.IsCell cA (some (.ref D))
  kN : ∃ v, SRep v (.int n) ∧ s.heap.IsCell cN (some v)
  kI : s.heap.IsCell cI (some (.ref f))

section
variable {W : Wd} {f D cA cN cI : Addr} {fd : FuncData} {n : Int} {s s' : Shared}
theorem I2.later (x : I2 W f D cA cN cI fd n s) {vs : List SV} (hD : LRep s.heap D vs) (e : ExtU W (hidD s D) s') : I2 W f D cA cN cI fd n s' :=
  ⟨x.at'.later hD x.gD e, x.gD, cell_later x.at'.gw.tok hD e x.kA, let ⟨v, h1, h2⟩ := x.kN; ⟨v, h1, cell_later x.at'.gw.tok hD e h2⟩, cell_later x.at'.gw.tok hD e x.kI⟩
theorem I2.ext (x : I2 W f D cA cN cI fd n s) (e : ExtU W s s') : I2 W f D cA cN cI fd n s' :=
  ⟨x.at'.ext e, x.gD, IsCell.ext x.kA x.at'.gw.tok e, let ⟨v, h1, h2⟩ := x.kN; ⟨v, h1, IsCell.ext h2 x.at'.gw.tok e⟩, IsCell.ext x.kI x.at'.gw.tok e⟩
theorem reps3 {vals : List Value} {a b c : SV} (h : Reps vals [a, b, c]) : ∃ u v w, vals = [u, v, w] ∧ SRep u a ∧ SRep v b ∧ SRep w c := by
  cases h with
  | cons h1 h => cases h with
    | cons h2 h => cases h with
      | cons h3 h => cases h; exact ⟨_, _, _, rfl, h1, h2, h3⟩
theorem reps2 {vals : List Value} {a b : SV} (h : Reps vals [a, b]) : ∃ u v, vals = [u, v] ∧ SRep u a ∧ SRep v b := by
  cases h with
  | cons h1 h => cases h with
    | cons h2 h => cases h; exact ⟨_, _, rfl, h1, h2⟩
end
section
variable {W : Wd} {f D cA cN cI : Addr} {fd : FuncData} {n : Nat}
noncomputable def iρ (f : Addr) (ds : List Int) (n : Int) (x L R : Int) : Loc := [(nm "x", aI x), (nm "L", aI L), (nm "R", aI R), (nm "n", aI n), (nm "a_digits", .list .own (ds.map .int)), (nm "inner", .obj f)]
noncomputable def iNext (f : Addr) (ds : List Int) (n : Nat) (x : Int) (L R : Nat) (ρ : Loc) : Prop :=
  look (nm "mid") ρ = some (aI ((L + R) / 2 : Nat)) ∧ look (nm "lower") ρ = some (aI (x % 2 ^ (n * ((L + R) / 2 - L)))) ∧ look (nm "upper") ρ = some (aI (x / 2 ^ (n * ((L + R) / 2 - L)))) ∧
    look (nm "L") ρ = some (aI L) ∧ look (nm "R") ρ = some (aI R) ∧ look (nm "a_digits") ρ = some (.list .own (ds.map .int)) ∧ look (nm "inner") ρ = some (.obj f) ∧ noOwnBut (nm "a_digits") ρ = true
theorem ownD {env : Env} {own : Option Addr} {s₀ s : Shared} {ρ : Loc} {ds : List SV} (hk : env.kindOf (nm "a_digits") = some .free) (hc : env.cells.lookup (nm "a_digits") = some cA) (hv : s.heap.IsCell cA (some (.ref D)))
    (F : FS W nS true env own ρ s₀ s) (hl : look (nm "a_digits") ρ = some (.list .own ds)) : own = some D ∧ LRep s.heap D ds := by
  obtain ⟨l, h1, ⟨_, rd⟩, lr⟩ := F.ownAt hl
  have : l = D := by
    rcases rd with ⟨k, _⟩ | ⟨k, _⟩ | ⟨k, _, c, h2, o, h3, h4⟩ | ⟨k, _⟩ | ⟨k, _⟩
    · rw [hk] at k; cases k
    · rw [hk] at k; cases k
    · rw [hc] at h2; cases h2
      obtain ⟨o', h5, h6⟩ := hv
      rw [h5] at h3; cases h3
      rw [h6] at h4; cases h4; rfl
    · rw [hk] at k; cases k
    · rw [hk] at k; cases k
  subst this
  exact ⟨h1, lr⟩
end

noncomputable def ifT (s : Stmt) : Expr := (stPart s).ex
noncomputable def ifB (s : Stmt) : List Stmt := (stPart s).body
set_option maxRecDepth 10000 in
theorem t_i2test (f : Addr) (ds : List Int) (n x : Int) (L R : Nat) (k : Bool → Prop) (h : k (decide ((L : Int) + 1 = R))) :
    tsE nS 0 10 true (fnScope (nestSt 8 1)) (iρ f ds n x L R) (ifT ((fnBody (nestSt 8 1)).getD 0 (.Pass ⟨0,0,0,0⟩))) k := by
  conv => arg 6; whnf
  conv => arg 5; unfold iρ
  conv => arg 7; whnf
  repeat' (first | with_reducible apply xs_cons | walk_at "m_base" | (with_reducible refine And.intro ?_ ?_))
  all_goals exact h
set_option maxRecDepth 10000 in
theorem t_i2rest (f : Addr) (ds : List Int) (n : Nat) (x : Int) (L R : Nat) (hx : 0 ≤ x) (hLR : L + 1 < R) (hb : intBits x ≤ 2 ^ 21) (hn : n * R ≤ 2 ^ 20) (hnp : 0 < n) :
    exs (exE nS 0 true 10 (nm "") (fnScope (nestSt 8 1)) 10) [(fnBody (nestSt 8 1)).getD 1 (.Pass ⟨0,0,0,0⟩), (fnBody (nestSt 8 1)).getD 2 (.Pass ⟨0,0,0,0⟩), (fnBody (nestSt 8 1)).getD 3 (.Pass ⟨0,0,0,0⟩), (fnBody (nestSt 8 1)).getD 4 (.Pass ⟨0,0,0,0⟩)]
      (iρ f ds n x L R) (iNext f ds n x L R) (fun _ => False) := by
  conv => arg 1; arg 6; whnf
  conv => arg 2; arg 1; whnf
  conv => arg 2; arg 2; arg 1; whnf
  conv => arg 2; arg 2; arg 2; arg 1; whnf
  conv => arg 2; arg 2; arg 2; arg 2; arg 1; whnf
  unfold iρ
  have e1 : ((L : Int) + R).fdiv (2 ^ (1 : Int).toNat) = ((L + R) / 2 : Nat) := by
    rw [Int.fdiv_eq_ediv_of_nonneg _ (by decide)]; norm_cast
  have hm1 : L ≤ (L + R) / 2 := by omega
  have hm2 : (L + R) / 2 ≤ R := by omega
  have e2 : (((L + R) / 2 : Nat) : Int) - (L : Int) = (((L + R) / 2 - L : Nat) : Int) := by omega
  have hs : n * ((L + R) / 2 - L) ≤ 2 ^ 20 := Nat.le_trans (Nat.mul_le_mul_left _ (by omega)) hn
  have e3 : ((((L + R) / 2 - L : Nat) : Int) * (n : Int)) = ((n * ((L + R) / 2 - L) : Nat) : Int) := by rw [Nat.mul_comm]; norm_cast
  generalize hmm : (L + R) / 2 = mid at *
  generalize hss : n * (mid - L) = sh at *
  have hb2 : intBits (x / 2 ^ sh) ≤ 2 ^ 21 := Nat.le_trans (ib_div hx (by have := pow_pos' sh; omega) (Nat.le_refl _)) hb
  have e4 : x.fdiv (2 ^ (sh : Int).toNat) = x / 2 ^ sh := by
    rw [Int.toNat_natCast, Int.fdiv_eq_ediv_of_nonneg _ (by have := pow_pos' sh; omega)]
  have e5 : Builtin.bitXor x (x / 2 ^ sh * 2 ^ (sh : Int).toNat) = x % 2 ^ sh := by
    rw [Int.toNat_natCast]; exact xor_low sh hx
  with_reducible apply xs_cons
  repeat' (first | walk_at "m_base" | (with_reducible refine And.intro ?_ ?_))
  · decide
  rw [e1]
  with_reducible apply xs_cons
  repeat' (first | walk_at "m_base" | (with_reducible refine And.intro ?_ ?_))
  · rw [e2]
    refine IntMulOk.of_le (m := 30) (n := 30) (ib_cast (by have : (mid - L) * n ≤ 2 ^ 20 := by rw [Nat.mul_comm]; omega
                                                           have := Nat.le_mul_of_pos_right (mid - L) hnp; omega)) (ib_cast ?_) (by decide)
    have : n * 1 ≤ n * R := Nat.mul_le_mul_left _ (by omega)
    omega
  rw [e2, e3]
  with_reducible apply xs_cons
  repeat' (first | walk_at "m_base" | (with_reducible refine And.intro ?_ ?_))
  · omega
  rw [e4]
  with_reducible apply xs_cons
  repeat' (first | walk_at "m_base" | (with_reducible refine And.intro ?_ ?_))
  · omega
  · have : ((intBits (x / 2 ^ sh) + sh : Nat) : Int) ≤ 2 ^ 27 := lt27 (by omega)
    rw [Int.natCast_add] at this; exact this
  rw [e5]
  unfold iNext
  rw [hmm, hss]
  refine ⟨?_, ?_, ?_, ?_, ?_, ?_, ?_, rfl⟩ <;> (walk_at "m_look")
end
section
open PySem PySem.W PyProof.Rows PySem.Calls PyProof.V PySem.Spec PySem.SeqAt
theorem noOwnBut_setv (x : Str) (a : AV) : ∀ {ρ : Loc}, noOwnBut x ρ = true → noOwnBut x (setv x a ρ) = true
  | [], _ => by simp [setv, noOwnBut]
  | (y, b) :: r, h => by
    by_cases q : x = y
    · subst q
      simp only [setv, noOwnBut, if_true] at h ⊢
      exact h
    · simp only [setv, noOwnBut, if_neg q, Bool.and_eq_true] at h ⊢
      exact ⟨h.1, noOwnBut_setv x a h.2⟩
theorem noOwnBut_setvS (x y : Str) (a : AV) (ha : isOwnTag a = false) : ∀ {ρ : Loc}, noOwnBut x ρ = true → noOwnBut x (setv y a ρ) = true
  | [], _ => by
    by_cases q : x = y <;> simp [setv, noOwnBut, q, ha]
  | (z, b) :: r, h => by
    by_cases q : y = z
    · subst q
      by_cases q2 : x = y
      · simp only [setv, noOwnBut, if_pos q2, if_true] at h ⊢; exact h
      · simp only [setv, noOwnBut, if_neg q2, if_true, Bool.and_eq_true] at h ⊢; exact ⟨by rw [ha]; rfl, h.2⟩
    · by_cases q2 : x = z
      · simp only [setv, noOwnBut, if_neg q, if_pos q2] at h ⊢; exact noOwnBut_setvS x y a ha h
      · simp only [setv, noOwnBut, if_neg q, if_neg q2, Bool.and_eq_true] at h ⊢; exact ⟨h.1, noOwnBut_setvS x y a ha h.2⟩
theorem take_set {α : Type} (l : List α) (i : Nat) (a : α) (h : i < l.length) : l.set i a = l.take i ++ [a] ++ l.drop (i + 1) := by
  rw [List.set_eq_take_append_cons_drop, if_pos h]; simp
theorem pieces_len {ds : List Int} {n : Nat} {x : Int} {L m R : Nat} (h1 : L ≤ m) (h2 : m ≤ R) (h3 : R ≤ ds.length) : (ds.take L ++ dg n x (m - L) ++ ds.drop m).length = ds.length := by
  rw [List.length_append, List.length_append, List.length_take, List.length_drop, dg_len, Nat.min_eq_left (Nat.le_trans h1 (Nat.le_trans h2 h3)), Nat.add_sub_cancel' h1, Nat.add_sub_cancel' (Nat.le_trans h2 h3)]
theorem pieces_join {ds : List Int} {n : Nat} {x : Int} {L m R : Nat} (h1 : L ≤ m) (h2 : m ≤ R) (h3 : R ≤ ds.length) :
    (ds.take L ++ dg n (x % 2 ^ (n * (m - L))) (m - L) ++ ds.drop m).take m ++ dg n (x / 2 ^ (n * (m - L))) (R - m) ++ (ds.take L ++ dg n (x % 2 ^ (n * (m - L))) (m - L) ++ ds.drop m).drop R = ds.take L ++ dg n x (R - L) ++ ds.drop R := by
  have e : R - L = (m - L) + (R - m) := ns_split h1 h2
  have hl : (ds.take L ++ dg n (x % 2 ^ (n * (m - L))) (m - L)).length = m := by
    rw [List.length_append, List.length_take, dg_len, Nat.min_eq_left (Nat.le_trans h1 (Nat.le_trans h2 h3)), Nat.add_sub_cancel' h1]
  have e2 : m + (R - m) = R := Nat.add_sub_cancel' h2
  rw [List.take_append_of_le_length (by omega), List.take_of_length_le (by omega), e, dg_split, List.drop_append, hl, List.drop_of_length_le (by omega), List.drop_drop, e2]
  simp
noncomputable def i2K (ds : List Int) (x : Int) (L : Nat) (ρ : Loc) : Prop := look (nm "a_digits") ρ = some (.list .own ((ds.set L x).map .int))
noncomputable abbrev g8 (i : Nat) : Stmt := (fnBody (nestSt 8 1)).getD i (.Pass ⟨0,0,0,0⟩)
set_option maxRecDepth 10000 in
theorem t_i2base (f : Addr) (ds : List Int) (n x : Int) (L R : Nat) (hL : L < ds.length) (hl : ds.length ≤ 2 ^ 20) :
    exs (exE nS 0 true 10 (nm "") (fnScope (nestSt 8 1)) 10) [(ifB (g8 0)).getD 0 (.Pass ⟨0,0,0,0⟩)] (iρ f ds n x L R) (i2K ds x L) (fun _ => False) := by
  conv => arg 1; arg 6; whnf
  conv => arg 2; arg 1; whnf
  conv => arg 3; unfold iρ
  with_reducible apply xs_cons
  repeat' (first | walk_at "m_base" | (with_reducible refine And.intro ?_ ?_))
  · omega
  · simpa using hL
  · simpa using hl
  · unfold i2K
    rw [look_setv_self]
    simp [List.map_set]
theorem e8_0 : g8 0 = .If (ifT (g8 0)) [(ifB (g8 0)).getD 0 (.Pass ⟨0,0,0,0⟩), .Return none ⟨51, 12, 51, 18⟩] [] ⟨49, 8, 51, 18⟩ := rfl
theorem e8_5 : g8 5 = .Expr (.Call (.Name (nm "inner") ⟨56, 8, 56, 13⟩) [.Name (nm "lower") ⟨56, 14, 56, 19⟩, .Name (nm "L") ⟨56, 21, 56, 22⟩, .Name (nm "mid") ⟨56, 24, 56, 27⟩] [] ⟨56, 8, 56, 28⟩) ⟨56, 8, 56, 28⟩ := rfl
theorem e8_6 : g8 6 = .Expr (.Call (.Name (nm "inner") ⟨57, 8, 57, 13⟩) [.Name (nm "upper") ⟨57, 14, 57, 19⟩, .Name (nm "mid") ⟨57, 21, 57, 24⟩, .Name (nm "R") ⟨57, 26, 57, 27⟩] [] ⟨57, 8, 57, 28⟩) ⟨57, 8, 57, 28⟩ := rfl
theorem e8 : fnBody (nestSt 8 1) = [g8 0, g8 1, g8 2, g8 3, g8 4, g8 5, g8 6] := rfl
section
variable {W : Wd} {S : Nat → Sig} {R n : Nat} {es : Scope} {A : Around} {env : Env} {own : Option Addr} {s₀ s s' : Shared} {ρ : Loc} {E : Value → Shared → Prop} {f D : Addr} {fd : FuncData} {u : Bool}
theorem ev_names3 {a b c : Str} {p q r : Pos} {x y z : SV} (h1 : look a ρ = some (.sc x)) (h2 : look b ρ = some (.sc y)) (h3 : look c ρ = some (.sc z)) :
    evs (evE S R (n + 1) u es ρ) [.Name a p, .Name b q, .Name c r] fun as => ∃ vs, scs as = some vs ∧ vs = [x, y, z] :=
  ev_call1 (ev_name h1 (ev_call1 (ev_name h2 (ev_call1 (ev_name h3 (ev_call0 ⟨_, rfl, rfl⟩))))))
end
section
variable {W : Wd} {f D cA cN cI : Addr} {fd : FuncData} {n : Nat}
set_option maxRecDepth 10000 in
/-- the made function writes a number's figures into its stretch of the list -/
theorem i2d_inner (K : InnK W f fd 8 1 [nm "x", nm "L", nm "R"]) (hA : fd.closure.lookup (nm "a_digits") = some cA) (hN : fd.closure.lookup (nm "n") = some cN) (hI : fd.closure.lookup (nm "inner") = some cI) (hn : 0 < n) :
    ∀ (d : Nat) (A : Around) (s : Shared) (Q : Value → Shared → Prop) (E : Value → Shared → Prop) (ds : List Int) (x : Int) (L R : Nat) (vals : List Value), Room A (d + 1) → I2 W f D cA cN cI fd n s → LRep s.heap D (ds.map .int) → Reps vals [.int x, .int L, .int R] →
      0 ≤ x → x < 2 ^ (n * (R - L)) → L < R → R ≤ ds.length → R - L ≤ 2 ^ d → n * ds.length ≤ 2 ^ 20 → ds.length ≤ 2 ^ 20 →
      (∀ s', ExtU W (hidD s D) s' → LRep s'.heap D ((ds.take L ++ dg n x (R - L) ++ ds.drop R).map .int) → Q .none s') → wpAny (model W.prog W.w) A (call (.ref f) vals) Q E s := by
  intro d
  induction d using Nat.strongRecOn with
  | _ d ih => ?_
  intro A s Q E ds x L R vals hR I hD rv hx hxb hLR hRl hRd hnl hl hQ
  obtain ⟨vx, vL, vR, rfl, rx, rL, rR⟩ := reps3 rv
  obtain ⟨vn, hvn, hcN⟩ := I.kN
  refine inn_entry (E := E) K (r := d) hR I.at' (vals := [vx,vL,vR]) rfl (by decide +kernel) hD I.gD (ρ := iρ f ds n x L R) ?_ ?_ ?_ ?_
  · rw [K.sc]; decide +kernel
  · rw [K.sc]; decide +kernel
  · rw [K.sc]
    intro y a hy
    simp only [iρ, look] at hy
    split at hy
    · rename_i q; subst q; cases hy; exact ⟨by decide +kernel, vx, rx, .inl ⟨by simp, by decide +kernel⟩⟩
    split at hy
    · rename_i q; subst q; cases hy; exact ⟨by decide +kernel, vL, rL, .inl ⟨by simp, by decide +kernel⟩⟩
    split at hy
    · rename_i q; subst q; cases hy; exact ⟨by decide +kernel, vR, rR, .inl ⟨by simp, by decide +kernel⟩⟩
    split at hy
    · rename_i q; subst q; cases hy; exact ⟨by decide +kernel, vn, hvn, .inr ⟨by decide +kernel, by decide +kernel, _, hN, hcN⟩⟩
    split at hy
    · rename_i q; subst q; cases hy; exact ⟨by decide +kernel, .ref D, ⟨D, rfl, rfl, hD⟩, .inr ⟨by decide +kernel, by decide +kernel, _, hA, I.kA⟩⟩
    split at hy
    · rename_i q; subst q; cases hy; exact ⟨by decide +kernel, .ref f, rfl, .inr ⟨by decide +kernel, by decide +kernel, _, hI, I.kI⟩⟩
    · cases hy
  · intro env s₁ E' hR' K' hes hcl F
    rw [K.sc] at hes
    have hR0 := hR'.le (Nat.zero_le _)
    have kf : ∀ y, kindIn (fnScope (nestSt 8 1)).names y .free = true → env.kindOf y = some .free := fun y hy => hes y _ hy
    have kA := kf (nm "a_digits") (by decide +kernel)
    have hcA : env.cells.lookup (nm "a_digits") = some cA := by rw [hcl]; exact hA
    have tok0 := I.at'.gw.tok
    rw [e8, e8_0]
    refine wpAny_execs_cons (wpAny_If ((ev_all W nS 0 10).2.1 true _ _ _ _ _ env _ s₁ _ _ hR0 K' hes F.rs (t_i2test f ds n x L R (fun c => c = decide ((L : Int) + 1 = R)) rfl) fun c s₂ hx2 hc => ?_))
    have F2 := F.ext hx2
    by_cases hb : L + 1 = R
    · subst hb
      have hct : c = true := by rw [hc]; simp
      subst hct
      refine exs_soundA (ex_all W nS 0 10 true (nm "") _ 10) hR0 K' hes [.Return none ⟨51, 12, 51, 18⟩] [_] _ _ _ F2 (t_i2base f ds n x L (L + 1) (by omega) hl) fun s3 own3 ρ3 F3 k3 => ?_
      refine wpAny_execs_cons (wpAny_Return_none ?_)
      obtain ⟨h1, h2⟩ := ownD kA hcA (I.later hD F3.ex.ext).kA F3 k3
      refine hQ _ F3.ex.ext ?_
      rw [Nat.add_sub_cancel_left, dg_one hx (by rwa [Nat.add_sub_cancel_left, Nat.mul_one] at hxb), ← take_set _ _ _ (by omega)]
      exact h2
    · have hct : c = false := by rw [hc]; simp; omega
      subst hct
      have hnR : n * R ≤ 2 ^ 20 := Nat.le_trans (Nat.mul_le_mul_left _ hRl) hnl
      have hbx : intBits x ≤ 2 ^ 21 := Nat.le_trans ((ib_le hx).mpr hxb) (Nat.le_trans (Nat.mul_le_mul_left n (Nat.sub_le R L)) (by omega))
      refine wpAny_execs_nil ?_
      refine exs_soundA (ex_all W nS 0 10 true (nm "") _ 10) hR0 K' hes [g8 5, g8 6] [g8 1, g8 2, g8 3, g8 4] _ _ _ F2 (t_i2rest f ds n x L R hx (by omega) hbx hnR hn) fun s3 own3 ρ3 F3 k3 => ?_
      obtain ⟨kmid, klow, kup, kL, kR, kad, kin, kno⟩ := k3
      have hm1 : L < (L + R) / 2 := by omega
      have hm2 : (L + R) / 2 < R := by omega
      have hd : 0 < d := by
        rcases Nat.eq_zero_or_pos d with q | q
        · subst q; simp at hRd; omega
        · exact q
      have h2d : 2 ^ d = 2 ^ (d - 1) + 2 ^ (d - 1) := by
        rw [← Nat.two_mul, ← Nat.pow_succ', Nat.succ_eq_add_one]; congr 1; exact (Nat.sub_add_cancel hd).symm
      generalize hm : (L + R) / 2 = m at *
      have hRm : Room (A.deeper env) (d - 1 + 1) := by rw [Nat.sub_add_cancel hd]; exact hR'
      have I3 := I.later hD F3.ex.ext
      obtain ⟨ho3, hD3⟩ := ownD kA hcA I3.kA F3 kad
      rw [e8_5]
      refine wpAny_execs_cons (wpAny_Expr_any (inn_ev hR0 K' hes F3.rs I3.at' kin rfl (ev_names3 (n := 5) klow kL kmid) fun s4 vals vs hx4 rv4 hv4 => ?_) (not_inter K') rfl)
      subst hv4
      have I4 := I3.ext hx4.ext
      have hD4 := hD3.ext F3.rs.gw.tok hx4.ext
      have F4 := F3.ext hx4
      have hp := pow_pos' (n * (m - L))
      refine ih (d - 1) (by omega) _ s4 _ E' ds _ L m vals hRm I4 hD4 rv4 (Int.emod_nonneg _ (by omega)) (Int.emod_lt_of_pos _ hp) hm1 (Nat.le_trans (Nat.le_of_lt hm2) hRl) (ns_half1 (h2d ▸ hRd) hm) hnl hl fun s5 e5 hD5 => ?_
      have F5 := F4.outD ho3 e5 kad kno hD5
      have I5 := I4.later hD4 e5
      have lk : ∀ {y : String} {a : AV}, y ≠ "a_digits" → look (nm y) ρ3 = some a → look (nm y) (setv (nm "a_digits") (.list .own ((ds.take L ++ dg n (x % 2 ^ (n * (m - L))) (m - L) ++ ds.drop m).map .int)) ρ3) = some a := fun hy h => by
        rw [look_setvS, if_neg hy]; exact h
      rw [e8_6]
      refine wpAny_execs_cons (wpAny_Expr_any (inn_ev hR0 K' hes F5.rs I5.at' (lk (by decide) kin) rfl (ev_names3 (n := 5) (lk (by decide) kup) (lk (by decide) kmid) (lk (by decide) kR)) fun s6 vals6 vs6 hx6 rv6 hv6 => ?_) (not_inter K') rfl)
      subst hv6
      have I6 := I5.ext hx6.ext
      have hD6 := hD5.ext F5.rs.gw.tok hx6.ext
      have F6 := F5.ext hx6
      have hl' := pieces_len (ds := ds) (n := n) (x := x % 2 ^ (n * (m - L))) (Nat.le_of_lt hm1) (Nat.le_of_lt hm2) hRl
      have hub : x / 2 ^ (n * (m - L)) < 2 ^ (n * (R - m)) := by
        refine Int.ediv_lt_of_lt_mul hp ?_
        rw [← Int.pow_add, ← Nat.mul_add]
        rwa [show R - m + (m - L) = R - L from Nat.sub_add_sub_cancel (Nat.le_of_lt hm2) (Nat.le_of_lt hm1)]
      refine ih (d - 1) (by omega) _ s6 _ E' _ _ m R vals6 hRm I6 hD6 rv6 (Int.ediv_nonneg hx (by omega)) hub hm2 (by rw [hl']; exact hRl) (ns_half2 (h2d ▸ hRd) hm) (by rw [hl']; exact hnl) (by rw [hl']; exact hl) fun s7 e7 hD7 => ?_
      rw [pieces_join (Nat.le_of_lt hm1) (Nat.le_of_lt hm2) hRl] at hD7
      have F7 := F6.outD (vs := _) ho3 e7 (look_setv_self _ _ _) (noOwnBut_setv _ _ kno) hD7
      exact wpAny_execs_nil (hQ _ F7.ex.ext hD7)
end
end
section
open PySem PySem.W PyProof.Rows PySem.Calls PyProof.V PySem.Spec PySem.SeqAt

noncomputable def fAdd : FSpec := fun as k => ∃ a : Int, ∃ b : Int, as = [aI a, aI b] ∧ (k (aI (a + b)))
noncomputable def fSub : FSpec := fun as k => ∃ a : Int, ∃ b : Int, as = [aI a, aI b] ∧ (k (aI (a - b)))
noncomputable def fMul : FSpec := fun as k => ∃ a : Int, ∃ b : Int, as = [aI a, aI b] ∧ (IntMulOk a b ∧ k (aI (a * b)))
noncomputable def fFd : FSpec := fun as k => ∃ a : Int, ∃ b : Int, as = [aI a, aI b] ∧ (b ≠ 0 ∧ k (aI (a.fdiv b)))
noncomputable def fConcat : FSpec := fun as k => ∃ x : Str, ∃ y : Str, as = [.sc (.str x), .sc (.str y)] ∧ (x.length + y.length ≤ sizeLine ∧ k (aS (cs x ++ cs y)))
noncomputable def fLh : FSpec := fun as k => ∃ tg1 : Tag, ∃ vs : List SV, as = [.list tg1 vs] ∧ (vs.length ≤ 2 ^ 20 ∧ k (aI (vs.length : Int)))
noncomputable def fColl : FSpec := fun as k => ∃ x : Str, ∃ y : Str, as = [.sc (.str x), .sc (.str y)] ∧ (k (aI (b2i (ltS (cs y) (cs x)) - b2i (ltS (cs x) (cs y)))))
noncomputable def fDivS : FSpec := fun as k => ∃ a : Int, ∃ b : Int, ∃ n : Int, as = [aI a, aI b, aI n] ∧ (0 ≤ a ∧ 0 < b ∧ (intBits a : Int) - n ≤ 4000 ∧ k (.tup [.int (a / b), .int (a % b)]))
noncomputable def fD3 : FSpec := fun as k => ∃ a12 : Int, ∃ a3 : Int, ∃ b : Int, ∃ b1 : Int, ∃ b2 : Int, ∃ n : Int, as = [aI a12, aI a3, aI b, aI b1, aI b2, aI n] ∧ (0 ≤ a12 ∧ a12 < b ∧ 0 ≤ a3 ∧ 0 < n ∧ n ≤ 4000 ∧ a3 < 2 ^ n.toNat ∧ b1 = b / 2 ^ n.toNat ∧ b2 = b % 2 ^ n.toNat ∧ 0 < b1 ∧ intBits b ≤ 8000 ∧ (intBits a12 : Int) - n ≤ 4000 ∧
      k (.tup [.int ((a12 * 2 ^ n.toNat + a3) / b), .int ((a12 * 2 ^ n.toNat + a3) % b)]))
noncomputable def fDivB : FSpec := fun as k => ∃ a : Int, ∃ b : Int, ∃ n : Int, as = [aI a, aI b, aI n] ∧ (0 ≤ a ∧ 0 < n ∧ n ≤ 7000 ∧ 2 ^ (n.toNat - 1) ≤ b ∧ b < 2 ^ n.toNat ∧ a < b * 2 ^ n.toNat ∧ k (.tup [.int (a / b), .int (a % b)]))
noncomputable def ceilD (b n : Nat) : Nat := (b + n - 1) / n
noncomputable def fI2d : FSpec := fun as k => ∃ a : Int, ∃ n : Int, as = [aI a, aI n] ∧ (0 ≤ a ∧ 0 < n ∧ intBits a ≤ 20000 ∧ n ≤ 20000 ∧ k (.list .tmp ((dg n.toNat a (ceilD (intBits a) n.toNat)).map .int)))
noncomputable def fD2i : FSpec := fun as k => ∃ tg1 : Tag, ∃ vs : List SV, ∃ n : Int, as = [.list tg1 vs, aI n] ∧ (0 < n ∧ n ≤ 20000 ∧ ∃ ds : List Int, vs = ds.map .int ∧ ds.length ≤ 2 ^ 15 ∧ n * ds.length ≤ 2 ^ 20 ∧ (∀ d ∈ ds, 0 ≤ d ∧ d < 2 ^ n.toNat) ∧ k (aI (und n.toNat ds)))
noncomputable def fDm : FSpec := fun as k => ∃ a : Int, ∃ b : Int, as = [aI a, aI b] ∧ (0 ≤ a ∧ 0 < b ∧ intBits a ≤ 14000 ∧ intBits b ≤ 7000 ∧ k (.tup [.int (a / b), .int (a % b)]))
noncomputable def fPart : FSpec := fun as k => ∃ a : Int, ∃ b : Int, ∃ tg1 : Tag, ∃ vs : List SV, as = [aI a, aI b, .list tg1 vs] ∧ (0 ≤ a ∧ 0 < b ∧ intBits a ≤ 1000 ∧ intBits b ≤ 1000 ∧ (∃ l : List Int, vs = l.map .int ∧ l.length = 7) ∧ k (aI (a / b)))
noncomputable def fCells : FSpec := fun as k => ∃ tg1 : Tag, ∃ vs : List SV, as = [.list tg1 vs] ∧ ((∃ l : List Int, vs = l.map .int ∧ l.length ≤ 63) ∧ ∀ c : List Int, c.length = 7 → k (.list .tmp (c.map .int)))
noncomputable def rowOf (c : Int) : List Int := (List.range (c % 4).toNat).map fun k => c / 4 ^ (k + 1) % 4
noncomputable def rkOf (r : List Int) (k : Nat) : Int := if k < r.length then r.getD k 0 + 1 else 0
noncomputable def rankOf (r : List Int) : Int := (List.range 6).foldl (fun s k => 5 * s + rkOf r k) 0
noncomputable def fRow : FSpec := fun as k => ∃ c : Int, as = [aI c] ∧ (k (.list .tmp ((rowOf c).map .int)))
noncomputable def fRank : FSpec := fun as k => ∃ tg1 : Tag, ∃ vs : List SV, as = [.list tg1 vs] ∧ ((∃ r : List Int, vs = r.map .int ∧ r.length ≤ 6 ∧ ∀ r' : List Int, vs = r'.map .int → k (aI (rankOf r'))))
noncomputable def szOf (T w : Int) : Nat := intBits (-1 - (-2 * T) / w)
noncomputable def ptOf (T ahead w : Int) (s : Nat) : Int := (2 * ahead + w) * 2 ^ s / (2 * T)
/-- a number's bits, the highest first -/
noncomputable def bitsOf (p : Int) (s : Nat) : List Int := (List.range s).map fun k => p / 2 ^ (s - 1 - k) % 2
noncomputable def chOf (z o : Nat) (b : Int) : Nat := if b = 0 then z else o
noncomputable def wordOf (z o : Nat) (T ahead w : Int) : List Nat := (bitsOf (ptOf T ahead w (szOf T w)) (szOf T w)).map (chOf z o)
noncomputable def wordsFrom (z o : Nat) (T : Int) : Int → List Int → List (List Nat)
  | _, [] => []
  | ahead, w :: r => wordOf z o T ahead w :: wordsFrom z o T (ahead + w) r
noncomputable def wordsOf (z o : Nat) (ws : List Int) : List (List Nat) := wordsFrom z o ws.sum 0 ws
structure WtOk (ws : List Int) : Prop where
  len : ws.length = 4
  bd : ∀ w ∈ ws, 1 ≤ w ∧ w ≤ 50
noncomputable def strL (ws : List (List Nat)) : List SV := ws.map fun w => SV.str (mkS w)
noncomputable def fWords : FSpec := fun as k => ∃ tg1 : Tag, ∃ a : List SV, ∃ b : Str, ∃ tg2 : Tag, ∃ c : List SV, as = [.list tg1 a, .sc (.str b), .list tg2 c] ∧ (∃ ws z o, ∃ cl : List Int, a = ws.map SV.int ∧ b = mkS [z, o] ∧ c = cl.map SV.int ∧ WtOk ws ∧ cl.length = 7 ∧ k (.list .tmp (strL (wordsOf z o ws))))
noncomputable def codeOf (words : List (List Nat)) (row : List Int) : List Nat := row.flatMap fun i => words.getD i.toNat []
structure RowOk (row : List Int) : Prop where
  len : row.length ≤ 6
  bd : ∀ x ∈ row, 0 ≤ x ∧ x ≤ 3
noncomputable def fRead : FSpec := fun as k => ∃ t : Str, ∃ tg1 : Tag, ∃ a : List SV, ∃ tg2 : Tag, ∃ b : List SV, ∃ c : Str, ∃ tg3 : Tag, ∃ d : List SV, as = [.sc (.str t), .list tg1 a, .list tg2 b, .sc (.str c), .list tg3 d] ∧ (∃ row ws z o, ∃ cl : List Int, z ≠ o ∧ cs t = codeOf (wordsOf z o ws) row ∧ a = ws.map SV.int ∧ b = strL (wordsOf z o ws) ∧ c = mkS [z, o] ∧ d = cl.map SV.int ∧ WtOk ws ∧ RowOk row ∧ cl.length = 7 ∧ k (.list .tmp (row.map .int)))
/-- a text cut from its end -/
noncomputable def cut : List Nat → List Int → List (List Nat)
  | _, [] => []
  | t, n :: r => t.drop (t.length - n.toNat) :: cut (t.take (t.length - n.toNat)) r
noncomputable def more : List Nat := "more".toList.map Char.toNat
noncomputable def fPieces : FSpec := fun as k => ∃ t : Str, ∃ tg1 : Tag, ∃ a : List SV, ∃ many : Int, as = [.sc (.str t), .list tg1 a, aI many] ∧ (∃ sizes fin L, a = sizes.map SV.int ∧ Beh fin sizes none L ∧ sizes.length ≤ 2 ^ 10 ∧ L.length ≤ 2 ^ 10 ∧ (cs t).length ≤ 2 ^ 18 ∧ (∀ n ∈ L.take many.toNat, 0 ≤ n) ∧ (L.take many.toNat).sum ≤ ((cs t).length : Int) ∧
      ((fin = true ∧ (L.length : Int) = many ∧ k (.list .tmp (strL (cut (cs t) L)))) ∨ (fin = false ∧ 0 ≤ many ∧ many < L.length ∧ k (.list .tmp (strL (cut (cs t) (L.take many.toNat)) ++ [.str (Str.ofString "more")])))))
noncomputable def SS : Nat → Sig
  | 0 => sgLen
  | 1 => sgRange
  | 2 => sgMax
  | 3 => sgSum
  | 4 => sgIsi
  | 5 => sgHas
  | 6 => sgDivmod
  | 7 => ⟨1, false, fColl⟩
  | 8 => ⟨1, false, fDivS⟩
  | 9 => ⟨2, true, fD3⟩
  | 10 => ⟨3, true, fDivB⟩
  | 11 => ⟨18, true, fI2d⟩
  | 12 => ⟨18, true, fD2i⟩
  | 13 => ⟨19, true, fDm⟩
  | 14 => ⟨1, false, fAdd⟩
  | 15 => ⟨1, false, fMul⟩
  | 16 => ⟨1, false, fConcat⟩
  | 17 => ⟨1, false, fLh⟩
  | 18 => ⟨1, false, fFd⟩
  | 19 => ⟨1, false, fSub⟩
  | 20 => ⟨1, true, fCells⟩
  | 21 => ⟨1, true, fRow⟩
  | 22 => ⟨1, true, fRank⟩
  | 23 => ⟨2, false, fColl⟩
  | 24 => ⟨20, true, fPart⟩
  | 25 => ⟨21, true, fWords⟩
  | 26 => ⟨21, true, fRead⟩
  | 27 => ⟨1, true, fPieces⟩
  | _ => noSig
noncomputable abbrev gF (k : Nat) : AV := .fn k
theorem kindIn_nil (x : Str) (k : NameKind) : kindIn [] x k = false := rfl
theorem kindIn_cons (x y : String) (k k' : NameKind) (r : List (Str × NameKind)) : kindIn ((Str.ofString y, k') :: r) (Str.ofString x) k = if x = y then k' == k else kindIn r (Str.ofString x) k := by
  unfold kindIn
  rw [List.lookup_cons]
  by_cases h : x = y
  · subst h
    simp only [beq_self_eq_true, if_true]
    cases k <;> cases k' <;> rfl
  · have hb : (Str.ofString x == Str.ofString y) = false := by
      rw [beq_eq_false_iff_ne]
      exact fun q => h (Str.ofString_inj.mp q)
    simp only [hb, if_neg h]
theorem free_cell : (NameKind.free == NameKind.cell) = false := rfl
theorem cell_cell : (NameKind.cell == NameKind.cell) = true := rfl
theorem free_free : (NameKind.free == NameKind.free) = true := rfl
theorem glob_glob : (NameKind.globalImplicit == NameKind.globalImplicit) = true := rfl
theorem glob_cell : (NameKind.globalImplicit == NameKind.cell) = false := rfl
theorem loc_cell : (NameKind.local == NameKind.cell) = false := rfl
theorem loc_glob : (NameKind.local == NameKind.globalImplicit) = false := rfl
theorem loc_free : (NameKind.local == NameKind.free) = false := rfl
theorem free_glob : (NameKind.free == NameKind.globalImplicit) = false := rfl
theorem glob_free : (NameKind.globalImplicit == NameKind.free) = false := rfl
theorem cell_free : (NameKind.cell == NameKind.free) = false := rfl
theorem cell_glob : (NameKind.cell == NameKind.globalImplicit) = false := rfl
end
open Lean in
local macro_rules | `(tactic| walk_at "m_cr") => do
  let xs ← simpT "Mine.cρ Mine.kindIn_cons Mine.kindIn_nil String.reduceEq reduceIte"
  castT (← `(tactic| simp (config := {decide := true}) only [$xs,*]))
section
open PySem PySem.W PyProof.Rows PySem.Calls PyProof.V PySem.Spec PySem.SeqAt

/-- a def of the text as the law's state holds it -/
structure TopFn0 (W : Wd) (i : Nat) (f : Addr) (fd : FuncData) : Prop where
  at' : ∃ o, W.g.get? f = some o ∧ o.data = .func fd
  body' : fd.body = .stmts (fnBody (stAt i))
  clo : fd.closure = []
  gl : fd.globals = mainGlobals
  bu : fd.builtins = builtinsNs
  code : W.g.CodeRec fd.code fd.qualname
  sc : fd.scope = fnScope (stAt i)
structure TopFn (W : Wd) (i : Nat) (f : Addr) (fd : FuncData) (xs : List Str) : Prop extends TopFn0 W i f fd where
  bind : ∀ vs : List Value, vs.length = xs.length → bindArgs fd ⟨vs, []⟩ = pure (xs.zip vs)
noncomputable def nodupS : List Str → Bool
  | [] => true
  | x :: r => !(r.any fun y => x == y) && nodupS r
theorem nodupS_ok : ∀ {l : List Str}, nodupS l = true → l.Nodup
  | [], _ => List.nodup_nil
  | x :: r, h => by
    simp only [nodupS, Bool.and_eq_true, Bool.not_eq_true', List.any_eq_false] at h
    refine List.nodup_cons.mpr ⟨fun hm => ?_, nodupS_ok h.2⟩
    have := h.1 x hm
    simp at this
noncomputable def chkFn (sc : Scope) (xs : List Str) : Bool :=
  sc.kind == .function && !sc.isGenerator && !sc.isCoroutine && nodupS xs && xs.all (fun x => x != ("__debug__" : Str) && (sc.names.lookup x == some .local || sc.names.lookup x == some .cell)) &&
    sc.names.all (fun y => sc.names.lookup y.1 != some .cell || ((cellsFrom 0 sc.names []).lookup y.1).isSome) && nodupS ((cellsFrom 0 sc.names []).map (·.1))
theorem lookup_isSome {α : Type} {x : Str} : ∀ {l : List (Str × α)}, (l.lookup x).isSome = true ↔ x ∈ l.map (·.1)
  | [] => by simp
  | (y, a) :: r => by
    rw [List.lookup_cons]
    by_cases h : x = y
    · subst h; simp
    · have hb : (x == y) = false := by rw [beq_eq_false_iff_ne]; exact h
      rw [hb]
      simp only [List.map_cons, List.mem_cons]
      rw [lookup_isSome]
      constructor
      · exact fun q => .inr q
      · rintro (q | q)
        · exact absurd q h
        · exact q
theorem cells_any {ns : List (Str × NameKind)} {x : Str} (h : ((cellsFrom 0 ns []).lookup x).isSome = true) (n : Nat) : ((cellsFrom n ns []).lookup x).isSome = true := by
  rw [lookup_isSome] at *
  rwa [cellsFrom_names ns n 0 [] [] rfl]
structure GlobOk (W : Wd) (S : Nat → Sig) (sc : Scope) (glob : Loc) : Prop where
  ok : ∀ x a, look x glob = some a → (x == ("__debug__" : Str)) = false ∧ ∃ v, sc.names.lookup x = some .globalImplicit ∧ (W.mg x = some v ∨ (W.mg x = none ∧ x ≠ ("__name__" : Str) ∧ bootBuiltins x = some v)) ∧ ∀ h, VRep (Fk W S) none h v a
section
variable {W : Wd} {S : Nat → Sig} {sc : Scope}
theorem GlobOk.nil : GlobOk W S sc [] := ⟨fun x a h => by simp [look] at h⟩
noncomputable def gNm (sc : Scope) (x : Str) : Bool := x != ("__debug__" : Str) && x != ("__name__" : Str) && kindIn sc.names x .globalImplicit
theorem gNm_ok {x : Str} (h : gNm sc x = true) : (x == ("__debug__" : Str)) = false ∧ x ≠ ("__name__" : Str) ∧ sc.names.lookup x = some .globalImplicit := by
  simp only [gNm, Bool.and_eq_true, bne_iff_ne, ne_eq] at h
  exact ⟨beq_eq_false_iff_ne.mpr h.1.1, h.1.2, kindIn_iff.mp h.2⟩
theorem GlobOk.cons {x : Str} {a : AV} {v : Value} {r : Loc} (h : gNm sc x = true) (hv : W.mg x = some v ∨ (W.mg x = none ∧ bootBuiltins x = some v)) (hr : ∀ h, VRep (Fk W S) none h v a) (G : GlobOk W S sc r) : GlobOk W S sc ((x, a) :: r) := by
  refine ⟨fun y b hy => ?_⟩
  simp only [look] at hy
  split at hy
  · rename_i q; subst q; cases hy
    obtain ⟨h1, h2, h3⟩ := gNm_ok h
    exact ⟨h1, v, h3, hv.imp id fun q => ⟨q.1, h2, q.2⟩, hr⟩
  · exact G.ok y b hy
theorem GlobOk.fn {x : Str} {k : Nat} {v : Value} {r : Loc} (h : gNm sc x = true) (hv : W.mg x = some v) (hf : FnOk W (S k) v) (G : GlobOk W S sc r) : GlobOk W S sc ((x, .fn k) :: r) := .cons h (.inl hv) (fun _ => hf) G
theorem GlobOk.bi {x : Str} {k : Nat} {v : Value} {r : Loc} (h : gNm sc x = true) (hv : W.mg x = none) (hb : bootBuiltins x = some v) (hf : FnOk W (S k) v) (G : GlobOk W S sc r) : GlobOk W S sc ((x, .fn k) :: r) := .cons h (.inr ⟨hv, hb⟩) (fun _ => hf) G
theorem GlobOk.ty {x : Str} {t : String} {r : Loc} (h : gNm sc x = true) (hv : W.mg x = none) (hb : bootBuiltins x = some (.type t)) (G : GlobOk W S sc r) : GlobOk W S sc ((x, .ty t) :: r) := .cons h (.inr ⟨hv, hb⟩) (fun _ => rfl) G
theorem GlobOk.int {x : Str} {i : Int} {t : Tok} {r : Loc} (h : gNm sc x = true) (hv : W.mg x = some (.int i t)) (G : GlobOk W S sc r) : GlobOk W S sc ((x, aI i) :: r) := .cons h (.inl hv) (fun _ => .int i t) G

theorem TopFn0.defOk0 {i : Nat} {f : Addr} {fd : FuncData} {xs : List Str} {glob : Loc} (T : TopFn0 W i f fd) (hc : chkFn (fnScope (stAt i)) xs = true) (G : GlobOk W S (fnScope (stAt i)) glob) : DefOk W S f fd (fnBody (stAt i)) xs glob := by
  simp only [chkFn, Bool.and_eq_true, Bool.not_eq_true', List.all_eq_true, beq_iff_eq, bne_iff_ne, ne_eq, Bool.or_eq_true] at hc
  obtain ⟨⟨⟨⟨⟨⟨h1, h2⟩, h3⟩, h4⟩, h5⟩, h6⟩, h7⟩ := hc
  have hcel : ∀ x, (fnScope (stAt i)).names.lookup x = some .cell → ((cellsFrom 0 (fnScope (stAt i)).names []).lookup x).isSome = true := fun x hx => by
    rcases h6 (x, .cell) (Mine.mem_of_lookup hx) with q | q
    · exact absurd hx q
    · exact q
  refine ⟨T.at', by rw [T.sc]; exact h3, by rw [T.sc]; exact h2, by rw [T.sc]; exact h1, T.body', T.clo, T.gl, T.bu, T.code, nodupS_ok h4, fun x hx => ?_, fun x hx n => ?_, ?_, fun x a hx => ?_⟩
  · rw [T.sc]
    obtain ⟨q1, q2⟩ := h5 x hx
    exact ⟨beq_eq_false_iff_ne.mpr q1, q2.imp id fun q => ⟨q, fun n => cells_any (hcel x q) n⟩⟩
  · rw [T.sc] at hx ⊢
    exact cells_any (hcel x hx) n
  · rw [T.sc]; exact nodupS_ok h7
  · rw [T.sc]; exact G.ok x a hx
theorem TopFn.defOk {i : Nat} {f : Addr} {fd : FuncData} {xs : List Str} {glob : Loc} (T : TopFn W i f fd xs) (hc : chkFn (fnScope (stAt i)) xs = true) (G : GlobOk W S (fnScope (stAt i)) glob) : DefOk W S f fd (fnBody (stAt i)) xs glob := T.toTopFn0.defOk0 hc G
/-- a def's contract out of its body's conditions -/
theorem top_ok {i : Nat} {f : Addr} {fd : FuncData} {xs : List Str} {glob : Loc} {sg : Sig} {R N n : Nat} {on : Str} (T : TopFn W i f fd xs) (hc : chkFn (fnScope (stAt i)) xs = true) (G : GlobOk W S (fnScope (stAt i)) glob) (hlv : sg.lv = R + 1)
    (hvc : ∀ as k, sg.φ as k → as.length = xs.length ∧ as.all argOk = true ∧ exs (exE S R sg.ub N on (fnScope (stAt i)) n) (fnBody (stAt i)) (entry xs as ++ glob) (fun _ => False) (back k)) : FnOk W sg (.ref f) := by
  refine def_ok (T.defOk hc G) hlv (N := N) (n := n) (on := on) (ex := []) (exA := []) (fun _ => .nil) (fun s vals _ hl => .of_eq ?_) fun as k h => ?_
  · rw [T.bind vals (by simpa using hl), List.append_nil]
  · obtain ⟨h1, h2, h3⟩ := hvc as k h
    rw [List.append_nil, T.sc]
    exact ⟨by simpa using h1, h2, h3⟩
end
end
section
open PySem PySem.W PyProof.Rows PySem.Calls PyProof.V PySem.Spec PySem.SeqAt
noncomputable abbrev gg (i j : Nat) : Stmt := (fnBody (stAt i)).getD j (.Pass ⟨0,0,0,0⟩)
noncomputable def defParams : Stmt → Arguments
  | .FunctionDef _ p _ _ _ _ _ _ _ _ => p
  | _ => { posonlyargs := [], args := [], vararg := none, kwonlyargs := [], kw_defaults := [], kwarg := none, defaults := [] }
noncomputable def defPos (s : Stmt) : Pos := (stPart s).pos
theorem e11 : fnBody (stAt 8) = [gg 8 0, gg 8 1, gg 8 2, gg 8 3] := rfl
theorem e11_1 : gg 8 1 = .FunctionDef (nm "inner") (defParams (nestSt 8 1)) (fnBody (nestSt 8 1)) [] none [] (fnScope (nestSt 8 1)) none (nm "inner") (defPos (nestSt 8 1)) := rfl
noncomputable def ifPos : Stmt → Pos
  | .If _ _ _ p => p
  | _ => ⟨0,0,0,0⟩
theorem e11_2 : gg 8 2 = .If (ifT (gg 8 2)) [(ifB (gg 8 2)).getD 0 (.Pass ⟨0,0,0,0⟩)] [] (ifPos (gg 8 2)) := rfl
theorem ceilD_fd {b n : Nat} (hn : 0 < n) : ((b : Int) + n - 1).fdiv n = ((ceilD b n : Nat) : Int) := by
  rw [Int.fdiv_eq_ediv_of_nonneg _ (by omega)]
  unfold ceilD
  have e : (b : Int) + n - 1 = ((b + n - 1 : Nat) : Int) := by omega
  rw [e]; norm_cast
theorem ceilD_le {b n : Nat} (hn : 0 < n) : ceilD b n ≤ b := by
  unfold ceilD
  rcases Nat.eq_zero_or_pos b with rfl | hb
  · rw [Nat.zero_add, Nat.div_eq_of_lt (by omega)]; exact Nat.le_refl _
  · refine Nat.div_le_of_le_mul ?_
    have : n * b ≥ n + b - 1 := by
      obtain ⟨n', rfl⟩ : ∃ n', n = n' + 1 := ⟨n - 1, by omega⟩
      obtain ⟨b', rfl⟩ : ∃ b', b = b' + 1 := ⟨b - 1, by omega⟩
      rw [Nat.add_mul, Nat.mul_add]
      omega
    omega
theorem ceilD_mul {b n : Nat} (hn : 0 < n) : b ≤ n * ceilD b n := by
  unfold ceilD
  have := Nat.div_add_mod (b + n - 1) n
  have := Nat.mod_lt (b + n - 1) hn
  omega
theorem ceilD_mul2 {b n : Nat} (hn : 0 < n) : n * ceilD b n ≤ b + n := by
  unfold ceilD
  have := Nat.div_add_mod (b + n - 1) n
  omega
noncomputable def i2Kn (a : Int) (n : Nat) (ρ' : Loc) : Prop := look (nm "a") ρ' = some (aI a) ∧ look (nm "n") ρ' = some (aI n) ∧ look (nm "a_digits") ρ' = some (.list .own ((List.replicate (ceilD (intBits a) n) (0 : Int)).map .int)) ∧ look (nm "len") ρ' = some (.fn 0) ∧ noOwnBut (nm "a_digits") ρ' = true
set_option maxRecDepth 10000 in
theorem t_i2first (a : Int) (n : Nat) (ha : 0 ≤ a) (hn : 0 < n) (hb : intBits a ≤ 20000) :
    exs (exE SS 17 true 10 (nm "a_digits") (fnScope (stAt 8)) 10) [gg 8 0] (entry [nm "a", nm "n"] [aI a, aI n] ++ [(nm "len", .fn 0)]) (i2Kn a n) (fun _ => False) := by
  conv => arg 1; arg 6; whnf
  conv => arg 2; arg 1; whnf
  conv => arg 3; simp only [entry, argA, List.cons_append, List.nil_append]
  have hc := ceilD_le (b := intBits a) hn
  unfold intBits at hc hb
  with_reducible apply xs_cons
  repeat' (first | walk_at "m_base" | (with_reducible refine And.intro ?_ ?_))
  · decide
  · omega
  · rw [ceilD_fd hn]; omega
  · rw [ceilD_fd hn]; omega
  · rw [ceilD_fd hn]
    refine ⟨?_, ?_, ?_, ?_, rfl⟩
    all_goals (simp only [look_setvS, look_cons, String.reduceEq, reduceIte])
    simp
set_option maxRecDepth 10000 in
theorem t_i2test2 (a : Int) (n : Nat) (ρ : Loc) (k : Bool → Prop) (hl : look (nm "a") ρ = some (aI a)) (h : k (decide (a ≠ 0))) : tsE SS 17 10 true (fnScope (stAt 8)) ρ (ifT (gg 8 2)) k := by
  conv => arg 6; whnf
  refine ts_name (ev_name hl (tr_int h))
theorem e11_2b : (ifB (gg 8 2)).getD 0 (.Pass ⟨0,0,0,0⟩) = .Expr (.Call (.Name (nm "inner") ⟨59, 8, 59, 13⟩) [.Name (nm "a") ⟨59, 14, 59, 15⟩, .Constant (.int 0) 0 ⟨59, 17, 59, 18⟩, .Call (.Name (nm "len") ⟨59, 20, 59, 23⟩) [.Name (nm "a_digits") ⟨59, 24, 59, 32⟩] [] ⟨59, 20, 59, 33⟩] [] ⟨59, 8, 59, 34⟩) ⟨59, 8, 59, 34⟩ := rfl

noncomputable def i2Kf (ds : List Int) (ρ : Loc) : Prop := look (nm "a_digits") ρ = some (.list .own (ds.map .int))
set_option maxRecDepth 10000 in
theorem t_i2ret (ds : List Int) (ρ : Loc) (kr : AV → Prop) (hl : look (nm "a_digits") ρ = some (.list .own (ds.map .int))) (h : kr (.list .own (ds.map .int))) : exs (exE SS 17 true 10 (nm "a_digits") (fnScope (stAt 8)) 10) [gg 8 3] ρ (fun _ => False) kr := by
  conv => arg 1; arg 6; whnf
  conv => arg 2; arg 1; whnf
  exact xs_cons (ex_ret (ev_name hl h))
theorem cellOfRd {W : Wd} {env : Env} {h : Heap} {x : Str} {v : Value} (r : Rd W env h x v) (k : env.kindOf x = some .cell) : ∃ c, env.cells.lookup x = some c ∧ h.IsCell c (some v) := by
  rcases r.2 with ⟨q, _⟩ | ⟨q, c, h1, h2⟩ | ⟨q, _⟩ | ⟨q, _⟩ | ⟨q, _⟩
  · rw [k] at q; cases q
  · exact ⟨c, h1, h2⟩
  · rw [k] at q; cases q
  · rw [k] at q; cases q
  · rw [k] at q; cases q
theorem len_cons {α : Type} {vs : List α} {n : Nat} (h : vs.length = n + 1) : ∃ u r, vs = u :: r ∧ r.length = n := by
  cases vs with
  | nil => cases h
  | cons u r => exact ⟨u, r, rfl, Nat.succ.inj h⟩
theorem len_nil {α : Type} {vs : List α} (h : vs.length = 0) : vs = [] := List.eq_nil_of_length_eq_zero h
theorem bind2 {fd : FuncData} {a b : Str} (h : ∀ u v, bindArgs fd ⟨[u, v], []⟩ = pure [(a, u), (b, v)]) (vs : List Value) (hl : vs.length = [a, b].length) : bindArgs fd ⟨vs, []⟩ = pure ([a, b].zip vs) := by
  obtain ⟨u, vs, rfl, h1⟩ := len_cons hl
  obtain ⟨v, vs, rfl, h2⟩ := len_cons h1
  rw [len_nil h2]; exact h u v
theorem bind3 {fd : FuncData} {a b c : Str} (h : ∀ u v w, bindArgs fd ⟨[u, v, w], []⟩ = pure [(a, u), (b, v), (c, w)]) (vs : List Value) (hl : vs.length = [a, b, c].length) : bindArgs fd ⟨vs, []⟩ = pure ([a, b, c].zip vs) := by
  obtain ⟨u, vs, rfl, h1⟩ := len_cons hl
  obtain ⟨v, vs, rfl, h2⟩ := len_cons h1
  obtain ⟨w, vs, rfl, h3⟩ := len_cons h2
  rw [len_nil h3]; exact h u v w
theorem ph0L {t : Tag} {vs : List SV} {k : AV → Prop} (h0 : vs.length ≤ 2 ^ 20) (h : k (aI (vs.length : Int))) : (SS 0).φ [.list t vs] k := FLen.list ⟨h0, h⟩
theorem ph0S {x : Str} {k : AV → Prop} (h0 : x.length ≤ 2 ^ 20) (h : k (aI (x.length : Int))) : (SS 0).φ [.sc (.str x)] k := FLen.str ⟨h0, h⟩
theorem t_i2args (a : Int) (vs : List SV) (ρ : Loc) {p1 p2 p3 p4 p5 : Pos} (h1 : look (nm "a") ρ = some (aI a)) (h2 : look (nm "a_digits") ρ = some (.list .own vs)) (h3 : look (nm "len") ρ = some (.fn 0)) (hl : vs.length ≤ 2 ^ 20) :
    evs (evE SS 17 8 true (fnScope (stAt 8)) ρ) [.Name (nm "a") p1, .Constant (.int 0) 0 p2, .Call (.Name (nm "len") p3) [.Name (nm "a_digits") p4] [] p5] fun as => ∃ ws, scs as = some ws ∧ ws = [.int a, .int 0, .int vs.length] :=
  ev_call1 (ev_name h1 (ev_call1 (ev_int (ev_call1 (ev_call rfl h3 (by decide) (by decide) (ev_call1 (ev_name h2 (ev_call0 (ph0L hl (ev_call0 ⟨_, rfl, rfl⟩))))))))))
set_option maxRecDepth 10000 in
theorem ok_i2d {W : Wd} {f : Addr} {fd : FuncData} {c P : Addr} (T : TopFn W 8 f fd [nm "a", nm "n"]) (G : GlobOk W SS (fnScope (stAt 8)) [(nm "len", .fn 0)]) (hcode : fd.code = .ref c)
    (NO : NestOk W c P (defPos (nestSt 8 1)) (fd.qualname ++ (".<locals>." : Str) ++ nm "inner")) : FnOk W (SS 11) (.ref f) := by
  refine def_sem (T.defOk (by decide +kernel) G) (R := 17) rfl (ex := []) (exA := []) (fun _ => .nil) (fun s vals _ hl => .of_eq (by rw [T.bind vals (by simpa using hl), List.append_nil])) (fun as k h => ?_) ?_
  · have h' : fI2d as k := h
    obtain ⟨a, n, rfl, h'⟩ := h'
    exact ⟨rfl, rfl⟩
  · intro A env s₀ s E as k Q hR K hes he F hφ hq
    have h' : fI2d as k := hφ
    obtain ⟨a, n', rfl, h'⟩ := h'
    obtain ⟨ha, hn', hb, hn2', hk⟩ := h'
    obtain ⟨n, rfl⟩ := Int.eq_ofNat_of_zero_le (Int.le_of_lt hn')
    rw [Int.toNat_natCast] at hk
    have hn : 0 < n := by omega
    have hn2 : n ≤ 20000 := by omega
    rw [T.sc] at hes
    have hce := ceilD_le (b := intBits a) hn
    have hce2 := ceilD_mul (b := intBits a) hn
    have hce3 := ceilD_mul2 (b := intBits a) hn
    have kc : ∀ y, kindIn (fnScope (stAt 8)).names y .cell = true → env.kindOf y = some .cell := fun y hy => hes y _ hy
    have kN := kc (nm "n") (by decide +kernel)
    have kA := kc (nm "a_digits") (by decide +kernel)
    have kI := kc (nm "inner") (by decide +kernel)
    rw [e11]
    refine exs_soundA (ex_all W SS 17 10 true (nm "a_digits") _ 10) hR K hes [gg 8 1, gg 8 2, gg 8 3] [gg 8 0] _ _ _ F (t_i2first a n ha hn hb) fun s1 own1 ρ1 F1 k1 => ?_
    obtain ⟨l1, l2, l3, l4, l5⟩ := k1
    obtain ⟨clos, hcl, hcl1, hcl2⟩ := closure_ok2 (env := env) (sc := fnScope (nestSt 8 1)) (fun y hy hf => by
      have : y.1 = nm "a_digits" ∨ y.1 = nm "inner" ∨ y.1 = nm "n" := by
        have hd : ∀ y ∈ (fnScope (nestSt 8 1)).names, y.2 = .free → y.1 = nm "a_digits" ∨ y.1 = nm "inner" ∨ y.1 = nm "n" := by decide +kernel
        exact hd y hy hf
      rcases this with q | q | q <;> rw [q]
      · exact K.cel _ kA
      · exact K.cel _ kI
      · exact K.cel _ kN)
    rw [e11_1]
    refine wpAny_execs_cons (nest_def F1 K NO (by rw [he]; exact hcode) (by unfold qualnameIn; rw [kI, he]; rfl) hcl (.inr kI) (by decide +kernel) rfl rfl rfl fun f' c' ctv doc pm s2 F2 hobj hcr hf0 => ?_)
    generalize hm : ceilD (intBits a) n = m at *
    have lk : ∀ {y : String} {a' : AV}, y ≠ "inner" → look (nm y) ρ1 = some a' → look (nm y) (setv (nm "inner") (.obj f') ρ1) = some a' := fun hy h => by
      rw [look_setvS, if_neg hy]; exact h
    obtain ⟨D, hD, rdD, lrD⟩ := F2.ownAt (lk (by decide) l3)
    obtain ⟨cA, hcA, vcA⟩ := cellOfRd rdD kA
    obtain ⟨vn, rdn, rn⟩ := F2.rs.var _ _ (lk (by decide) l2)
    obtain ⟨cN, hcN, vcN⟩ := cellOfRd rdn kN
    obtain ⟨vi, rdi, ri⟩ := F2.rs.var _ _ (look_setv_self (nm "inner") (.obj f') ρ1)
    cases ri
    obtain ⟨cI, hcI, vcI⟩ := cellOfRd rdi kI
    have fr : ∀ y, (y, NameKind.free) ∈ (fnScope (nestSt 8 1)).names → ∀ d, env.cells.lookup y = some d → clos.lookup y = some d := fun y hy d hd => hcl1 y d hy hd
    have KI : InnK W f' (fnX (nm "inner") (fd.qualname ++ (".<locals>." : Str) ++ nm "inner") (defParams (nestSt 8 1)) (fnBody (nestSt 8 1)) (fnScope (nestSt 8 1)) clos .none .none doc pm none (.ref c') ctv) 8 1 [nm "x", nm "L", nm "R"] :=
      ⟨rfl, rfl, rfl, rfl, rfl, rfl, rfl, fun x y d h1 h2 => F2.apart x y d (hcl2 x d h1) (hcl2 y d h2), bind3 fun u v w => rfl⟩
    have I2s : I2 W f' D cA cN cI _ n s2 := ⟨⟨F2.rs.gw, ⟨_, hobj, rfl, nofun⟩, hcr⟩, F2.gnone (F2.on D hD), vcA, ⟨vn, rn, vcN⟩, vcI⟩
    have hlen : ((List.replicate m (0 : Int))).length = m := by simp
    have fin : ∀ (sF : Shared) (ownF : Option Addr) (ρF : Loc), FS W SS true env ownF ρF s₀ sF → look (nm "a_digits") ρF = some (.list .own ((dg n a m).map .int)) → wpAny (model W.prog W.w) A (execs [gg 8 3] env) Q E sF := fun sF ownF ρF FF lF =>
      exs_sound (kn := fun _ => False) (kr := back k) (ex_all W SS 17 10 true (nm "a_digits") _ 10) hR K hes hq [gg 8 3] _ _ _ _ FF (t_i2ret _ _ _ lF hk) (fun _ _ _ _ q => q.elim) fun _ _ q => q
    rw [e11_2]
    refine wpAny_execs_cons (wpAny_If ((ev_all W SS 17 10).2.1 true _ _ _ _ _ env _ s2 _ _ hR K hes F2.rs (t_i2test2 a n _ (fun c => c = decide (a ≠ 0)) (lk (by decide) l1) rfl) fun c s3 hx3 hc => ?_))
    have F3 := F2.ext hx3
    by_cases h0 : a = 0
    · have hct : c = false := by rw [hc]; simp [h0]
      subst hct
      refine wpAny_execs_nil (fin _ _ _ F3 ?_)
      rw [lk (by decide) l3]
      subst h0
      have : m = 0 := by
        have e0 : intBits 0 = 0 := by decide +kernel
        rw [e0] at hce; omega
      rw [this]; rfl
    · have hct : c = true := by rw [hc]; simp [h0]
      subst hct
      have hm0 : 0 < m := by
        rcases Nat.eq_zero_or_pos m with q | q
        · subst q
          have h1 := ib_lt ha
          have : intBits a = 0 := by omega
          rw [this] at h1
          omega
        · exact q
      have I3 := I2s.ext hx3.ext
      have lrD3 := lrD.ext F2.rs.gw.tok hx3.ext
      rw [e11_2b]
      refine wpAny_execs_cons (wpAny_Expr_any (inn_ev hR K hes F3.rs I3.at' (look_setv_self _ _ _) rfl (t_i2args a _ _ (lk (by decide) l1) (lk (by decide) l3) (lk (by decide) l4) (by simp; omega))
        fun s4 vals vs hx4 rv4 hv4 => ?_) (not_inter K) rfl)
      rw [List.length_map, hlen] at hv4
      subst hv4
      have I4 := I3.ext hx4.ext
      have lrD4 := lrD3.ext F3.rs.gw.tok hx4.ext
      have F4 := F3.ext hx4
      refine i2d_inner KI (fr _ (by decide +kernel) _ hcA) (fr _ (by decide +kernel) _ hcN) (fr _ (by decide +kernel) _ hcI) hn 15 A s4 _ E _ a 0 m vals (hR.le (by decide)) I4 lrD4 rv4 ha ?_ hm0 (by rw [hlen]; exact Nat.le_refl _) (by omega) (by rw [hlen]; omega) (by rw [hlen]; omega) fun s5 e5 lrD5 => ?_
      · exact Int.lt_of_lt_of_le (ib_lt ha) (by
          rw [← natCast_pow', ← natCast_pow']
          exact_mod_cast Nat.pow_le_pow_right (by decide) hce2)
      · have e1 : (List.replicate m (0 : Int)).take 0 ++ dg n a (m - 0) ++ (List.replicate m (0 : Int)).drop m = dg n a m := by simp
        rw [e1] at lrD5
        have F5 := F4.outD hD e5 (lk (by decide) l3) (noOwnBut_setvS _ _ _ rfl l5) lrD5
        exact wpAny_execs_nil (fin _ _ _ F5 (look_setv_self _ _ _))
end
section
open PySem PySem.W PyProof.Rows PySem.Calls PyProof.V PySem.Spec PySem.SeqAt
section
variable {W : Wd} {A : Around} {s s' : Shared} {E : Value → Shared → Prop} {f D : Addr} {fd : FuncData}
/-- a call of a made function: its frame stands -/
theorem inn_entry0 {i j : Nat} {ps : List Str} (K : InnK W f fd i j ps) {r : Nat} (hR : Room A (r + 1)) (x : InnAt W f fd s) {vals : List Value} (hl : vals.length = ps.length) (hnd : ps.Nodup) {ρ : Loc}
    (hnc : ∀ y ∈ fd.scope.names, y.2 ≠ .cell) (hloc : ∀ y ∈ ps, fd.scope.names.lookup y = some .local)
    (hρ : ∀ y a, look y ρ = some a → (y == ("__debug__" : Str)) = false ∧ ∃ v, VRep (Fk W nS) none s.heap v a ∧ ((y, v) ∈ ps.zip vals ∧ fd.scope.names.lookup y = some .local ∨
      (fd.scope.names.lookup y = some .free ∧ (y == ("__classdict__" : Str)) = false ∧ ∃ c, fd.closure.lookup y = some c ∧ s.heap.IsCell c (some v))))
    {Q : Value → Shared → Prop} (h : ∀ (env : Env) (s₁ : Shared) (E' : Value → Shared → Prop), Room (A.deeper env) r → EnvOk env → (∀ x k, kindIn fd.scope.names x k = true → env.kindOf x = some k) → env.cells = fd.closure → FS W nS true env none ρ s s₁ →
      wpAny (model W.prog W.w) (A.deeper env) (execs (fnBody (nestSt i j)) env) (fun fl s' => Q (match fl with | .ret v => v | _ => .none) s') E' s₁) :
    wpAny (model W.prog W.w) A (call (.ref f) vals) Q E s := by
  obtain ⟨o, hf, hd, hcf⟩ := x.fo
  refine wpAny_call (codeAny_call_def (binds := ps.zip vals) (by have := hR.dp; simp only [recursionLimit]; omega) hf hd x.gw.nl x.code K.body' (.of_eq (K.bind _ hl)) hnc (fun y hy => hloc _ (List.of_mem_zip hy).1) (fun h₀ hns hk => ?_) K.co K.gen K.kind)
  generalize he : callEnv fd s.heap.objs.size f = env
  have hsc : env.scope = fd.scope := by rw [← he]; rfl
  have hco : ∀ y, env.kindOf y = fd.scope.names.lookup y := fun y => by rw [← he]; rfl
  have hcells : env.cells = fd.closure := by rw [← he]; rfl
  have hlocs : env.locals = s.heap.objs.size := by rw [← he]; rfl
  have hgl : env.globals = mainGlobals := by rw [← he]; exact K.gl
  have hbu : env.builtins = builtinsNs := by rw [← he]; exact K.bu
  have noCell : ∀ y, env.kindOf y ≠ some .cell := fun y hy => by
    rw [hco] at hy
    exact hnc _ (Mine.mem_of_lookup hy) rfl
  have Ke : EnvOk env := ⟨by rw [hsc]; exact K.kind, hgl, hbu, fun y hy => absurd hy (noCell y)⟩
  have e1 : Ex W true s { s with heap := h₀, toks := s.toks + (ps.zip vals).length } := .of_keeps ⟨h₀, _, rfl, hk⟩
  have tk1 : W.TOk h₀ := W.tok _ _ x.gw.tok hk
  have kIn : ∀ b o, s.heap.get? b = some o → h₀.get? b = some o := hk
  refine wpAny_mono (h env _ _ (hR.deeper (by rw [hsc]; exact K.gen) (by rw [hsc]; exact K.co) hbu hgl) Ke (fun y kd hy => by rw [hco]; exact kindIn_iff.mp hy) hcells ?_) (fun fl s' q => q) fun _ _ q => q
  refine ⟨⟨⟨fun b o hb => kIn b o (x.gw.keep b o hb), tk1⟩, fun y a hy => ?_, fun l hl => ?_⟩, x.gw.keep, e1, ⟨_, by rw [hlocs]; exact hns⟩, ?_, fun y hy => absurd hy (noCell y), ?_, fun l hl => ?_⟩
  · obtain ⟨hdb, v, vr, hv⟩ := hρ y a hy
    refine ⟨v, ⟨hdb, ?_⟩, ?_⟩
    · rcases hv with ⟨hm, hk1⟩ | ⟨hk1, hcd, c, hc, hcell⟩
      · refine .inl ⟨by rw [hco]; exact hk1, _, by rw [hlocs]; exact hns, ?_⟩
        have hn : ((ps.zip vals).map (·.1)).Nodup := by rw [List.map_fst_zip (by omega)]; exact hnd
        have lk : ∀ {l : List (Str × Value)} {y : Str} {a : Value}, (l.map (·.1)).Nodup → (y, a) ∈ l → l.reverse.lookup y = some a := by
          intro l y a h1 h2
          have h3 : ∀ {l : List (Str × Value)} {y : Str} {a : Value}, (l.map (·.1)).Nodup → (y, a) ∈ l → l.lookup y = some a := by
            intro l
            induction l with
            | nil => intro y a _ h2; cases h2
            | cons z r ih =>
              intro y a h1 h2
              obtain ⟨z, b⟩ := z
              simp only [List.map_cons, List.nodup_cons] at h1
              rw [List.lookup_cons]
              rcases List.mem_cons.mp h2 with e | h2
              · cases e; simp
              · have hne : y ≠ z := fun q => h1.1 (List.mem_map.mpr ⟨(y, a), h2, q⟩)
                have hb : (y == z) = false := by simpa using hne
                rw [hb]; exact ih h1.2 h2
          exact h3 (by rw [List.map_reverse]; exact nodup_rev h1) (List.mem_reverse.mpr h2)
        exact lk hn hm
      · exact .inr (.inr (.inl ⟨by rw [hco]; exact hk1, hcd, c, by rw [hcells]; exact hc, hcell.keeps kIn⟩))
    · have hl : ∀ {l ws}, LRep s.heap l ws → LRep h₀ l ws := fun {l ws} q => q.at1 fun o ho => kIn _ _ ho
      cases a with
      | list t zs => cases t with
        | tmp => exact vr
        | own => obtain ⟨l₁, h1, q, z⟩ := vr; exact ⟨l₁, h1, q, hl z⟩
        | shr => obtain ⟨l₁, h1, q, z⟩ := vr; exact ⟨l₁, h1, q, hl z⟩
      | _ => exact vr
  · cases hl
  · rw [hlocs]
    exact Heap.get?_none_of_le (Nat.le_refl _)
  · intro y z c h1 h2
    rw [hcells] at h1 h2
    exact K.apart _ _ _ h1 h2
  · cases hl
end

structure D2 (W : Wd) (f l cD cN cI : Addr) (fd : FuncData) (n : Int) (ds : List Int) (s : Shared) : Prop where
  at' : InnAt W f fd s
  lr : LRep s.heap l (ds.map .int)
  kD : s.heap.IsCell cD (some (.ref l))
  kN : ∃ v, SRep v (.int n) ∧ s.heap.IsCell cN (some v)
  kI : s.heap.IsCell cI (some (.ref f))
theorem D2.ext {W : Wd} {f l cD cN cI : Addr} {fd : FuncData} {n : Int} {ds : List Int} {s s' : Shared} (x : D2 W f l cD cN cI fd n ds s) (e : ExtU W s s') : D2 W f l cD cN cI fd n ds s' :=
  ⟨x.at'.ext e, x.lr.ext x.at'.gw.tok e, IsCell.ext x.kD x.at'.gw.tok e, let ⟨v, h1, h2⟩ := x.kN; ⟨v, h1, IsCell.ext h2 x.at'.gw.tok e⟩, IsCell.ext x.kI x.at'.gw.tok e⟩

noncomputable def dρ (f : Addr) (ds : List Int) (n : Int) (L R : Int) : Loc := [(nm "L", aI L), (nm "R", aI R), (nm "n", aI n), (nm "digits", .list .shr (ds.map .int)), (nm "inner", .obj f)]
noncomputable def dNext (f : Addr) (ds : List Int) (n : Nat) (L R : Nat) (ρ : Loc) : Prop :=
  look (nm "mid") ρ = some (aI ((L + R) / 2 : Nat)) ∧ look (nm "shift") ρ = some (aI (n * ((L + R) / 2 - L) : Nat)) ∧ look (nm "L") ρ = some (aI L) ∧ look (nm "R") ρ = some (aI R) ∧ look (nm "inner") ρ = some (.obj f)
noncomputable abbrev g9 (i : Nat) : Stmt := (fnBody (nestSt 9 0)).getD i (.Pass ⟨0,0,0,0⟩)
theorem e9 : fnBody (nestSt 9 0) = [g9 0, g9 1, g9 2, g9 3] := rfl
theorem e9_0 : g9 0 = .If (ifT (g9 0)) [(ifB (g9 0)).getD 0 (.Pass ⟨0,0,0,0⟩)] [] (ifPos (g9 0)) := rfl
theorem e9_3 : g9 3 = .Return (some (.BinOp (.BinOp (.Call (.Name (nm "inner") ⟨68, 16, 68, 21⟩) [.Name (nm "mid") ⟨68, 22, 68, 25⟩, .Name (nm "R") ⟨68, 27, 68, 28⟩] [] ⟨68, 16, 68, 29⟩) .LShift (.Name (nm "shift") ⟨68, 33, 68, 38⟩) ⟨68, 16, 68, 38⟩) .Add
    (.Call (.Name (nm "inner") ⟨68, 42, 68, 47⟩) [.Name (nm "L") ⟨68, 48, 68, 49⟩, .Name (nm "mid") ⟨68, 51, 68, 54⟩] [] ⟨68, 42, 68, 55⟩) ⟨68, 15, 68, 55⟩)) ⟨68, 8, 68, 55⟩ := rfl
set_option maxRecDepth 10000 in
theorem t_d2test (f : Addr) (ds : List Int) (n : Int) (L R : Nat) (k : Bool → Prop) (h : k (decide ((L : Int) + 1 = R))) :
    tsE nS 0 10 true (fnScope (nestSt 9 0)) (dρ f ds n L R) (ifT (g9 0)) k := by
  conv => arg 6; whnf
  conv => arg 5; unfold dρ
  conv => arg 7; whnf
  repeat' (first | with_reducible apply xs_cons | walk_at "m_base" | (with_reducible refine And.intro ?_ ?_))
  all_goals exact h
set_option maxRecDepth 10000 in
theorem t_d2base (f : Addr) (ds : List Int) (n : Int) (L R : Nat) (hL : L < ds.length) (hl : ds.length ≤ 2 ^ 20) (kr : AV → Prop) (h : kr (aI (ds.getD L 0))) :
    exs (exE nS 0 true 10 (nm "") (fnScope (nestSt 9 0)) 10) [(ifB (g9 0)).getD 0 (.Pass ⟨0,0,0,0⟩)] (dρ f ds n L R) (fun _ => False) kr := by
  conv => arg 1; arg 6; whnf
  conv => arg 2; arg 1; whnf
  conv => arg 3; unfold dρ
  with_reducible apply xs_cons
  repeat' (first | walk_at "m_base" | (with_reducible refine And.intro ?_ ?_))
  · omega
  · exact_mod_cast hL
  · exact hl
  · exact h
set_option maxRecDepth 10000 in
theorem t_d2rest (f : Addr) (ds : List Int) (n : Nat) (L R : Nat) (hLR : L + 1 < R) (hn : n * R ≤ 2 ^ 20) (hnp : 0 < n) :
    exs (exE nS 0 true 10 (nm "") (fnScope (nestSt 9 0)) 10) [g9 1, g9 2] (dρ f ds n L R) (dNext f ds n L R) (fun _ => False) := by
  conv => arg 1; arg 6; whnf
  conv => arg 2; arg 1; whnf
  conv => arg 2; arg 2; arg 1; whnf
  conv => arg 3; unfold dρ
  have e1 : ((L : Int) + R).fdiv (2 ^ (1 : Int).toNat) = ((L + R) / 2 : Nat) := by
    rw [Int.fdiv_eq_ediv_of_nonneg _ (by decide)]; norm_cast
  have hm1 : L ≤ (L + R) / 2 := by omega
  have hm2 : (L + R) / 2 ≤ R := by omega
  have e2 : (((L + R) / 2 : Nat) : Int) - (L : Int) = (((L + R) / 2 - L : Nat) : Int) := (Int.ofNat_sub hm1).symm
  have hs : n * ((L + R) / 2 - L) ≤ 2 ^ 20 := Nat.le_trans (Nat.mul_le_mul_left _ (Nat.le_trans (Nat.sub_le _ _) hm2)) hn
  have e3 : ((((L + R) / 2 - L : Nat) : Int) * (n : Int)) = ((n * ((L + R) / 2 - L) : Nat) : Int) := by rw [Nat.mul_comm]; norm_cast
  generalize hmm : (L + R) / 2 = mid at *
  generalize hss : n * (mid - L) = sh at *
  with_reducible apply xs_cons
  repeat' (first | walk_at "m_base" | (with_reducible refine And.intro ?_ ?_))
  · decide
  rw [e1]
  with_reducible apply xs_cons
  repeat' (first | walk_at "m_base" | (with_reducible refine And.intro ?_ ?_))
  · rw [e2]
    refine IntMulOk.of_le (m := 30) (n := 30) (ib_cast (by have : (mid - L) * n ≤ 2 ^ 20 := by rw [Nat.mul_comm]; omega
                                                           have := Nat.le_mul_of_pos_right (mid - L) hnp; omega)) (ib_cast ?_) (by decide)
    have : n * 1 ≤ n * R := Nat.mul_le_mul_left _ (by omega)
    omega
  rw [e2, e3]
  unfold dNext
  rw [hmm, hss]
  refine ⟨?_, ?_, ?_, ?_, ?_⟩ <;> (walk_at "m_look")
section
variable {W : Wd} {S : Nat → Sig} {R n : Nat} {es : Scope} {u : Bool} {ρ : Loc}
theorem ev_names2 {a b : Str} {p q : Pos} {x y : SV} (h1 : look a ρ = some (.sc x)) (h2 : look b ρ = some (.sc y)) :
    evs (evE S R (n + 1) u es ρ) [.Name a p, .Name b q] fun as => ∃ vs, scs as = some vs ∧ vs = [x, y] :=
  ev_call1 (ev_name h1 (ev_call1 (ev_name h2 (ev_call0 ⟨_, rfl, rfl⟩))))
end
theorem und_bd (n : Nat) : ∀ ds : List Int, (∀ d ∈ ds, 0 ≤ d ∧ d < 2 ^ n) → 0 ≤ und n ds ∧ und n ds < 2 ^ (n * ds.length)
  | [], _ => by simp [und]
  | d :: r, h => by
    obtain ⟨h1, h2⟩ := und_bd n r fun x hx => h x (List.mem_cons_of_mem _ hx)
    obtain ⟨h3, h4⟩ := h d List.mem_cons_self
    have hp := pow_pos' n
    simp only [und, List.length_cons, Nat.mul_succ]
    rw [Nat.add_comm, Int.pow_add]
    have a1 : (2 : Int) ^ n * 1 ≤ 2 ^ n * (2 ^ (n * r.length) - und n r) := Int.mul_le_mul_of_nonneg_left (by omega) (by omega)
    have a2 : 0 ≤ (2 : Int) ^ n * und n r := Int.mul_nonneg (by omega) h1
    rw [Int.mul_sub] at a1
    omega
theorem slice_split {ds : List Int} {L m R : Nat} (h1 : L ≤ m) (h2 : m ≤ R) (h3 : R ≤ ds.length) : (ds.drop L).take (R - L) = (ds.drop L).take (m - L) ++ (ds.drop m).take (R - m) := by
  have e : R - L = (m - L) + (R - m) := ns_split h1 h2
  have e2 : ds.drop m = (ds.drop L).drop (m - L) := by rw [List.drop_drop, Nat.add_sub_cancel' h1]
  rw [e, e2, List.take_add]
section
variable {W : Wd} {f l cD cN cI : Addr} {fd : FuncData} {n : Nat} {ds : List Int}
set_option maxRecDepth 10000 in
/-- the made function reads a stretch of the list -/
theorem d2i_inner (K : InnK W f fd 9 0 [nm "L", nm "R"]) (hA : fd.closure.lookup (nm "digits") = some cD) (hN : fd.closure.lookup (nm "n") = some cN) (hI : fd.closure.lookup (nm "inner") = some cI) (hn : 0 < n) (hnl : n * ds.length ≤ 2 ^ 20) (hl : ds.length ≤ 2 ^ 20) (hds : ∀ d ∈ ds, 0 ≤ d ∧ d < 2 ^ n) :
    ∀ (d : Nat) (A : Around) (s : Shared) (Q : Value → Shared → Prop) (E : Value → Shared → Prop) (L R : Nat) (vals : List Value), Room A (d + 1) → D2 W f l cD cN cI fd n ds s → Reps vals [.int L, .int R] →
      L < R → R ≤ ds.length → R - L ≤ 2 ^ d →
      (∀ v s', ExtU W s s' → SRep v (.int (und n ((ds.drop L).take (R - L)))) → Q v s') → wpAny (model W.prog W.w) A (call (.ref f) vals) Q E s := by
  intro d
  induction d using Nat.strongRecOn with
  | _ d ih => ?_
  intro A s Q E L R vals hR I rv hLR hRl hRd hQ
  obtain ⟨vL, vR, rfl, rL, rR⟩ := reps2 rv
  obtain ⟨vn, hvn, hcN⟩ := I.kN
  refine inn_entry0 (E := E) K (r := d) hR I.at' (vals := [vL,vR]) rfl (by decide +kernel) (ρ := dρ f ds n L R) ?_ ?_ ?_ ?_
  · rw [K.sc]; decide +kernel
  · rw [K.sc]; decide +kernel
  · rw [K.sc]
    intro y a hy
    simp only [dρ, look] at hy
    split at hy
    · rename_i q; subst q; cases hy; exact ⟨by decide +kernel, vL, rL, .inl ⟨by simp, by decide +kernel⟩⟩
    split at hy
    · rename_i q; subst q; cases hy; exact ⟨by decide +kernel, vR, rR, .inl ⟨by simp, by decide +kernel⟩⟩
    split at hy
    · rename_i q; subst q; cases hy; exact ⟨by decide +kernel, vn, hvn, .inr ⟨by decide +kernel, by decide +kernel, _, hN, hcN⟩⟩
    split at hy
    · rename_i q; subst q; cases hy; exact ⟨by decide +kernel, .ref l, ⟨l, rfl, nofun, I.lr⟩, .inr ⟨by decide +kernel, by decide +kernel, _, hA, I.kD⟩⟩
    split at hy
    · rename_i q; subst q; cases hy; exact ⟨by decide +kernel, .ref f, rfl, .inr ⟨by decide +kernel, by decide +kernel, _, hI, I.kI⟩⟩
    · cases hy
  · intro env s₁ E' hR' K' hes hcl F
    rw [K.sc] at hes
    have hR0 := hR'.le (Nat.zero_le _)
    rw [e9, e9_0]
    refine wpAny_execs_cons (wpAny_If ((ev_all W nS 0 10).2.1 true _ _ _ _ _ env _ s₁ _ _ hR0 K' hes F.rs (t_d2test f ds n L R (fun c => c = decide ((L : Int) + 1 = R)) rfl) fun c s₂ hx2 hc => ?_))
    have F2 := F.ext hx2
    by_cases hb : L + 1 = R
    · subst hb
      have hct : c = true := by rw [hc]; simp
      subst hct
      refine exs_sound (kn := fun _ => False) (kr := fun a => a = aI (ds.getD L 0)) (Q := fun fl s' => Q (match fl with | .ret v => v | _ => .none) s') (ex_all W nS 0 10 true (nm "") _ 10) hR0 K' hes (fun v s' own' ρ' a F' ra ka => ?_) [_] _ _ _ _ F2 (t_d2base f ds n L (L + 1) (by omega) hl _ rfl) (fun _ _ _ _ q => q.elim) fun _ _ q => q
      subst ka
      refine hQ v s' F'.ex.ext ?_
      have : (ds.drop L).take (L + 1 - L) = [ds.getD L 0] := by
        rw [Nat.add_sub_cancel_left]
        have hL : L < ds.length := by omega
        rw [List.drop_eq_getElem_cons hL, List.take_succ_cons, List.take_zero, List.getD, List.getElem?_eq_getElem hL]; rfl
      rw [this]
      simp only [und, Int.mul_zero, Int.add_zero]
      exact ra
    · have hct : c = false := by rw [hc]; simp; omega
      subst hct
      have hnR : n * R ≤ 2 ^ 20 := Nat.le_trans (Nat.mul_le_mul_left _ hRl) hnl
      refine wpAny_execs_nil ?_
      refine exs_soundA (ex_all W nS 0 10 true (nm "") _ 10) hR0 K' hes [g9 3] [g9 1, g9 2] _ _ _ F2 (t_d2rest f ds n L R (by omega) hnR hn) fun s3 own3 ρ3 F3 k3 => ?_
      obtain ⟨kmid, ksh, kL, kR, kin⟩ := k3
      have hm1 : L < (L + R) / 2 := by omega
      have hm2 : (L + R) / 2 < R := by omega
      have hd : 0 < d := by
        rcases Nat.eq_zero_or_pos d with q | q
        · subst q; simp at hRd; omega
        · exact q
      have h2d : 2 ^ d = 2 ^ (d - 1) + 2 ^ (d - 1) := by
        rw [← Nat.two_mul, ← Nat.pow_succ', Nat.succ_eq_add_one]; congr 1; exact (Nat.sub_add_cancel hd).symm
      generalize hm : (L + R) / 2 = m at *
      have hRm : Room (A.deeper env) (d - 1 + 1) := by rw [Nat.sub_add_cancel hd]; exact hR'
      have I3 := I.ext F3.ex.ext
      rw [e9_3]
      have sl : ∀ (a b : Nat) (x : Int), x ∈ (ds.drop a).take b → 0 ≤ x ∧ x < 2 ^ n := fun a b x hx => hds x (List.mem_of_mem_drop (List.mem_of_mem_take hx))
      refine wpAny_execs_cons (wpAny_Return_some (wpAny_BinOp (wpAny_BinOp (inn_ev hR0 K' hes F3.rs I3.at' kin rfl (ev_names2 (n := 5) kmid kR) fun s4 vals vs hx4 rv4 hv4 => ?_))))
      subst hv4
      refine ih (d - 1) (by omega) _ s4 _ E' m R vals hRm (I3.ext hx4.ext) rv4 hm2 hRl (ns_half2 (h2d ▸ hRd) hm) fun v5 s5 e5 rv5 => ?_
      have F5 : FS W nS true env own3 ρ3 s s5 := F3.ext ((show Ex W true s3 s5 from by simp only [Ex, if_true]; exact hx4.ext.trans e5))
      refine (ev_all W nS 0 10).1 true _ _ _ (fun a => a = aI (n * (m - L) : Nat)) _ env _ s5 _ _ hR0 K' hes F5.rs (ev_name ksh rfl) fun v6 s6 a6 hx6 ra6 ka6 => ?_
      subst ka6
      have F6 := F5.ext hx6
      obtain ⟨b1, b2⟩ := und_bd n _ (sl m (R - m))
      have hlen1 : ((ds.drop m).take (R - m)).length ≤ R := Nat.le_trans (List.length_take_le _ _) (Nat.sub_le _ _)
      refine bin_sound (F := fun _ _ => True) (own := none) (h₀ := s.heap) (h₁ := s5.heap) (k := fun a => a = aI (und n ((ds.drop m).take (R - m)) * 2 ^ (n * (m - L)))) (bi_shl (by omega) ?_ ?_) rv5 ra6 F6.rs.gw hR0 fun v7 s7 a7 hx7 ra7 ka7 => ?_
      · have h1 : intBits (und n ((ds.drop m).take (R - m))) ≤ n * ((ds.drop m).take (R - m)).length := (ib_le b1).mpr b2
        have h2 : n * ((ds.drop m).take (R - m)).length ≤ n * R := Nat.mul_le_mul_left _ hlen1
        have h3 : n * (m - L) ≤ n * R := Nat.mul_le_mul_left _ (Nat.le_trans (Nat.sub_le _ _) (Nat.le_of_lt hm2))
        have := lt27 (m := intBits (und n ((ds.drop m).take (R - m))) + n * (m - L)) (by omega)
        rw [Int.natCast_add] at this; exact this
      · rw [Int.toNat_natCast]
      subst ka7
      have F7 := F6.ext (.of_keeps hx7)
      have I7 := I.ext F7.ex.ext
      refine inn_ev hR0 K' hes F7.rs I7.at' kin rfl (ev_names2 (n := 5) kL kmid) fun s8 vals8 vs8 hx8 rv8 hv8 => ?_
      subst hv8
      refine ih (d - 1) (by omega) _ s8 _ E' L m vals8 hRm (I7.ext hx8.ext) rv8 hm1 (Nat.le_trans (Nat.le_of_lt hm2) hRl) (ns_half1 (h2d ▸ hRd) hm) fun v9 s9 e9' rv9 => ?_
      have F9 : FS W nS true env own3 ρ3 s s9 := F7.ext ((show Ex W true s7 s9 from by simp only [Ex, if_true]; exact hx8.ext.trans e9'))
      refine bin_sound (F := fun _ _ => True) (own := none) (h₀ := s.heap) (h₁ := s.heap) (k := fun a => a = aI (und n ((ds.drop m).take (R - m)) * 2 ^ (n * (m - L)) + und n ((ds.drop L).take (m - L)))) (bi_add rfl) ra7 rv9 F9.rs.gw hR0 fun v10 s10 a10 hx10 ra10 ka10 => ?_
      subst ka10
      have F10 := F9.ext (.of_keeps hx10)
      refine hQ _ _ F10.ex.ext ?_
      have hlm : ((ds.drop L).take (m - L)).length = m - L := by rw [List.length_take, List.length_drop, Nat.min_eq_left (Nat.sub_le_sub_right (Nat.le_trans (Nat.le_of_lt hm2) hRl) L)]
      rw [slice_split (Nat.le_of_lt hm1) (Nat.le_of_lt hm2) hRl, und_append, hlm, Int.add_comm, Int.mul_comm (2 ^ (n * (m - L)))]
      exact ra10
end

theorem e12 : fnBody (stAt 9) = [gg 9 0, gg 9 1] := rfl
theorem e12_0 : gg 9 0 = .FunctionDef (nm "inner") (defParams (nestSt 9 0)) (fnBody (nestSt 9 0)) [] none [] (fnScope (nestSt 9 0)) none (nm "inner") (defPos (nestSt 9 0)) := rfl
theorem e12_1 : gg 9 1 = .Return (some (.IfExp (.Name (nm "digits") ⟨69, 36, 69, 42⟩) (.Call (.Name (nm "inner") ⟨69, 11, 69, 16⟩) [.Constant (.int 0) 0 ⟨69, 17, 69, 18⟩, .Call (.Name (nm "len") ⟨69, 20, 69, 23⟩) [.Name (nm "digits") ⟨69, 24, 69, 30⟩] [] ⟨69, 20, 69, 31⟩] [] ⟨69, 11, 69, 32⟩) (.Constant (.int 0) 0 ⟨69, 48, 69, 49⟩) ⟨69, 11, 69, 49⟩)) ⟨69, 4, 69, 49⟩ := rfl
theorem t_d2args (vs : List SV) (ρ : Loc) {p2 p3 p4 p5 : Pos} (h2 : look (nm "digits") ρ = some (.list .shr vs)) (h3 : look (nm "len") ρ = some (.fn 0)) (hl : vs.length ≤ 2 ^ 20) :
    evs (evE SS 17 8 true (fnScope (stAt 9)) ρ) [.Constant (.int 0) 0 p2, .Call (.Name (nm "len") p3) [.Name (nm "digits") p4] [] p5] fun as => ∃ ws, scs as = some ws ∧ ws = [.int 0, .int vs.length] :=
  ev_call1 (ev_int (ev_call1 (ev_call rfl h3 (by decide) (by decide) (ev_call1 (ev_name h2 (ev_call0 (ph0L hl (ev_call0 ⟨_, rfl, rfl⟩))))))))
set_option maxRecDepth 10000 in
theorem ok_d2i {W : Wd} {f : Addr} {fd : FuncData} {c P : Addr} (T : TopFn W 9 f fd [nm "digits", nm "n"]) (G : GlobOk W SS (fnScope (stAt 9)) [(nm "len", .fn 0)]) (hcode : fd.code = .ref c)
    (NO : NestOk W c P (defPos (nestSt 9 0)) (fd.qualname ++ (".<locals>." : Str) ++ nm "inner")) : FnOk W (SS 12) (.ref f) := by
  refine def_sem (T.defOk (by decide +kernel) G) (R := 17) rfl (ex := []) (exA := []) (fun _ => .nil) (fun s vals _ hl => .of_eq (by rw [T.bind vals (by simpa using hl), List.append_nil])) (fun as k h => ?_) ?_
  · have h' : fD2i as k := h
    obtain ⟨tg1, vs, n, rfl, h'⟩ := h'
    exact ⟨rfl, rfl⟩
  · intro A env s₀ s E as k Q hR K hes he F hφ hq
    have h' : fD2i as k := hφ
    obtain ⟨tg, vs, n', rfl, h'⟩ := h'
    obtain ⟨hn', hn2', ds, rfl, hl, hnl', hds, hk⟩ := h'
    obtain ⟨n, rfl⟩ := Int.eq_ofNat_of_zero_le (Int.le_of_lt hn')
    rw [Int.toNat_natCast] at hk hds
    have hn : 0 < n := by omega
    have hnl : n * ds.length ≤ 2 ^ 20 := by exact_mod_cast hnl'
    rw [T.sc] at hes
    have kc : ∀ y, kindIn (fnScope (stAt 9)).names y .cell = true → env.kindOf y = some .cell := fun y hy => hes y _ hy
    have kN := kc (nm "n") (by decide +kernel)
    have kD := kc (nm "digits") (by decide +kernel)
    have kI := kc (nm "inner") (by decide +kernel)
    obtain ⟨clos, hcl, hcl1, hcl2⟩ := closure_ok2 (env := env) (sc := fnScope (nestSt 9 0)) (fun y hy hf => by
      have : y.1 = nm "digits" ∨ y.1 = nm "inner" ∨ y.1 = nm "n" := by
        have hd : ∀ y ∈ (fnScope (nestSt 9 0)).names, y.2 = .free → y.1 = nm "digits" ∨ y.1 = nm "inner" ∨ y.1 = nm "n" := by decide +kernel
        exact hd y hy hf
      rcases this with q | q | q <;> rw [q]
      · exact K.cel _ kD
      · exact K.cel _ kI
      · exact K.cel _ kN)
    rw [e12, e12_0]
    refine wpAny_execs_cons (nest_def F K NO (by rw [he]; exact hcode) (by unfold qualnameIn; rw [kI, he]; rfl) hcl (.inr kI) (by decide +kernel) rfl rfl rfl fun f' c' ctv doc pm s2 F2 hobj hcr hf0 => ?_)
    have hlk : ∀ {y : String} {a' : AV}, y ≠ "inner" → look (nm y) (entry [nm "digits", nm "n"] ([AV.list tg (ds.map .int), AV.sc (SV.int n)] ++ []) ++ [(nm "len", .fn 0)]) = some a' → look (nm y) (setv (nm "inner") (.obj f') (entry [nm "digits", nm "n"] ([AV.list tg (ds.map .int), AV.sc (SV.int n)] ++ []) ++ [(nm "len", .fn 0)])) = some a' := fun hy h => by
      rw [look_setvS, if_neg hy]; exact h
    have l1 := hlk (y := "digits") (a' := .list .shr (ds.map .int)) (by decide) (by simp only [entry, argA, List.cons_append, List.nil_append, look_cons, String.reduceEq, reduceIte])
    have l2 := hlk (y := "n") (a' := aI n) (by decide) (by simp only [entry, argA, List.cons_append, List.nil_append, look_cons, String.reduceEq, reduceIte])
    have l3 := hlk (y := "len") (a' := .fn 0) (by decide) (by simp only [entry, argA, List.cons_append, List.nil_append, look_cons, String.reduceEq, reduceIte])
    have l4 := look_setv_self (nm "inner") (.obj f') (entry [nm "digits", nm "n"] ([AV.list tg (ds.map .int), AV.sc (SV.int n)] ++ []) ++ [(nm "len", .fn 0)])
    clear hlk
    generalize (setv (nm "inner") (.obj f') (entry [nm "digits", nm "n"] ([AV.list tg (ds.map .int), AV.sc (SV.int n)] ++ []) ++ [(nm "len", .fn 0)])) = ρ2 at *
    obtain ⟨vD, rdD, l, rfl, hol, lrD⟩ := F2.rs.var _ _ l1
    obtain ⟨cD, hcD, vcD⟩ := cellOfRd rdD kD
    obtain ⟨vn, rdn, rn⟩ := F2.rs.var _ _ l2
    obtain ⟨cN, hcN, vcN⟩ := cellOfRd rdn kN
    obtain ⟨vi, rdi, ri⟩ := F2.rs.var _ _ l4
    cases ri
    obtain ⟨cI, hcI, vcI⟩ := cellOfRd rdi kI
    have fr : ∀ y, (y, NameKind.free) ∈ (fnScope (nestSt 9 0)).names → ∀ d, env.cells.lookup y = some d → clos.lookup y = some d := fun y hy d hd => hcl1 y d hy hd
    have KI : InnK W f' (fnX (nm "inner") (fd.qualname ++ (".<locals>." : Str) ++ nm "inner") (defParams (nestSt 9 0)) (fnBody (nestSt 9 0)) (fnScope (nestSt 9 0)) clos .none .none doc pm none (.ref c') ctv) 9 0 [nm "L", nm "R"] :=
      ⟨rfl, rfl, rfl, rfl, rfl, rfl, rfl, fun x y d h1 h2 => F2.apart x y d (hcl2 x d h1) (hcl2 y d h2), bind2 fun u v => rfl⟩
    have I2s : D2 W f' l cD cN cI _ n ds s2 := ⟨⟨F2.rs.gw, ⟨_, hobj, rfl, nofun⟩, hcr⟩, lrD, vcD, ⟨vn, rn, vcN⟩, vcI⟩
    rw [e12_1]
    refine wpAny_execs_cons (wpAny_Return_some (wpAny_IfExp ((ev_all W SS 17 10).2.1 true (fnScope (stAt 9)) _ _ (fun c => c = decide (ds.map SV.int ≠ [])) _ env _ s2 _ _ hR K hes F2.rs (ts_name (ev_name l1 (tr_list (by simp; omega) rfl))) fun c s3 hx3 hc => ?_)))
    have F3 := F2.ext hx3
    by_cases h0 : ds = []
    · have hct : c = false := by rw [hc]; simp [h0]
      subst hct
      refine wpAny_Constant_int (hq _ _ none ρ2 (aI 0) (F3.ext .toks) (SRep.int _ _) ?_)
      subst h0
      exact hk
    · have hct : c = true := by rw [hc]; simp [h0]
      subst hct
      have h1 : 0 < ds.length := List.length_pos_iff.mpr h0
      have I3 := I2s.ext hx3.ext
      refine inn_ev hR K hes F3.rs I3.at' l4 rfl (t_d2args _ _ l1 l3 (by simp; omega)) fun s4 vals vs hx4 rv4 hv4 => ?_
      rw [List.length_map] at hv4
      subst hv4
      have F4 := F3.ext hx4
      refine d2i_inner KI (fr _ (by decide +kernel) _ hcD) (fr _ (by decide +kernel) _ hcN) (fr _ (by decide +kernel) _ hcI) hn hnl (by omega) hds 15 A s4 _ E 0 ds.length vals (hR.le (by decide)) (I3.ext hx4.ext) rv4 h1 (Nat.le_refl _) (by omega) fun v5 s5 e5 rv5 => ?_
      refine hq _ _ none ρ2 (aI (und n ds)) (F4.ext (by simp only [Ex, if_true]; exact e5)) ?_ hk
      have e1 : (ds.drop 0).take (ds.length - 0) = ds := by simp
      rw [e1] at rv5
      exact rv5
end
section
open PySem PySem.W PyProof.Rows PySem.Calls PyProof.V PySem.Spec PySem.SeqAt
section
variable {W : Wd} {f : Addr} {fd : FuncData}
set_option maxRecDepth 10000
theorem t_coll (x y : Str) (k : AV → Prop) (h : k (aI (b2i (ltS (cs y) (cs x)) - b2i (ltS (cs x) (cs y))))) : exs (exE SS 0 false 20 (nm "") (fnScope (stAt 1)) 10) (fnBody (stAt 1)) (entry [nm "a", nm "b"] [.sc (.str x), .sc (.str y)] ++ []) (fun _ => False) (back k) := by
  conv => arg 1; arg 6; whnf
  conv => arg 2; whnf
  conv => arg 3; simp only [entry, argA, List.cons_append, List.nil_append]
  with_reducible apply xs_cons
  repeat' (first | walk_at "m_base" | (with_reducible refine And.intro ?_ ?_))
  exact h
theorem ok_coll (T : TopFn W 1 f fd [nm "a", nm "b"]) : FnOk W (SS 7) (.ref f) := by
  refine top_ok (S := SS) (N := 20) (n := 10) (on := nm "") T (by decide +kernel) .nil rfl fun as k h => ?_
  have h' : fColl as k := h
  obtain ⟨x, y, rfl, h'⟩ := h'
  exact ⟨rfl, rfl, t_coll _ _ _ h'⟩
theorem t_add (x y : Int) (k : AV → Prop) (h : k (aI (x + y))) : exs (exE SS 0 false 20 (nm "") (fnScope (stAt 12)) 10) (fnBody (stAt 12)) (entry [nm "a", nm "b"] [aI x, aI y] ++ []) (fun _ => False) (back k) := by
  conv => arg 1; arg 6; whnf
  conv => arg 2; whnf
  conv => arg 3; simp only [entry, argA, List.cons_append, List.nil_append]
  with_reducible apply xs_cons
  repeat' (first | walk_at "m_base" | (with_reducible refine And.intro ?_ ?_))
  exact h
theorem ok_add (T : TopFn W 12 f fd [nm "a", nm "b"]) : FnOk W (SS 14) (.ref f) := by
  refine top_ok (S := SS) (N := 20) (n := 10) (on := nm "") T (by decide +kernel) .nil rfl fun as k h => ?_
  have h' : fAdd as k := h
  obtain ⟨a, b, rfl, h'⟩ := h'
  exact ⟨rfl, rfl, t_add _ _ _ h'⟩
theorem t_mul (x y : Int) (k : AV → Prop) (h0 : IntMulOk x y) (h : k (aI (x * y))) : exs (exE SS 0 false 20 (nm "") (fnScope (stAt 13)) 10) (fnBody (stAt 13)) (entry [nm "a", nm "b"] [aI x, aI y] ++ []) (fun _ => False) (back k) := by
  conv => arg 1; arg 6; whnf
  conv => arg 2; whnf
  conv => arg 3; simp only [entry, argA, List.cons_append, List.nil_append]
  with_reducible apply xs_cons
  repeat' (first | walk_at "m_base" | (with_reducible refine And.intro ?_ ?_))
  · exact h0
  · exact h
theorem ok_mul (T : TopFn W 13 f fd [nm "a", nm "b"]) : FnOk W (SS 15) (.ref f) := by
  refine top_ok (S := SS) (N := 20) (n := 10) (on := nm "") T (by decide +kernel) .nil rfl fun as k h => ?_
  have h' : fMul as k := h
  obtain ⟨a, b, rfl, h'⟩ := h'
  exact ⟨rfl, rfl, t_mul _ _ _ h'.1 h'.2⟩
theorem t_fd (x y : Int) (k : AV → Prop) (h0 : y ≠ 0) (h : k (aI (x.fdiv y))) : exs (exE SS 0 false 20 (nm "") (fnScope (stAt 16)) 10) (fnBody (stAt 16)) (entry [nm "a", nm "b"] [aI x, aI y] ++ []) (fun _ => False) (back k) := by
  conv => arg 1; arg 6; whnf
  conv => arg 2; whnf
  conv => arg 3; simp only [entry, argA, List.cons_append, List.nil_append]
  with_reducible apply xs_cons
  repeat' (first | walk_at "m_base" | (with_reducible refine And.intro ?_ ?_))
  · exact h0
  with_reducible apply xs_cons
  repeat' (first | walk_at "m_base" | (with_reducible refine And.intro ?_ ?_))
  exact h
theorem ok_fd (T : TopFn W 16 f fd [nm "a", nm "b"]) : FnOk W (SS 18) (.ref f) := by
  refine top_ok (S := SS) (N := 20) (n := 10) (on := nm "") T (by decide +kernel) .nil rfl fun as k h => ?_
  have h' : fFd as k := h
  obtain ⟨a, b, rfl, h'⟩ := h'
  exact ⟨rfl, rfl, t_fd _ _ _ h'.1 h'.2⟩
theorem t_sub (x y : Int) (k : AV → Prop) (h : k (aI (x - y))) : exs (exE SS 0 false 20 (nm "") (fnScope (stAt 17)) 10) (fnBody (stAt 17)) (entry [nm "a", nm "b"] [aI x, aI y] ++ []) (fun _ => False) (back k) := by
  conv => arg 1; arg 6; whnf
  conv => arg 2; whnf
  conv => arg 3; simp only [entry, argA, List.cons_append, List.nil_append]
  with_reducible apply xs_cons
  repeat' (first | walk_at "m_base" | (with_reducible refine And.intro ?_ ?_))
  with_reducible apply xs_cons
  repeat' (first | walk_at "m_base" | (with_reducible refine And.intro ?_ ?_))
  exact h
theorem ok_sub (T : TopFn W 17 f fd [nm "a", nm "b"]) : FnOk W (SS 19) (.ref f) := by
  refine top_ok (S := SS) (N := 20) (n := 10) (on := nm "") T (by decide +kernel) .nil rfl fun as k h => ?_
  have h' : fSub as k := h
  obtain ⟨a, b, rfl, h'⟩ := h'
  exact ⟨rfl, rfl, t_sub _ _ _ h'⟩
theorem ph6 {a b : Int} {k : AV → Prop} (h0 : b ≠ 0) (h : k (.tup [.int (a.fdiv b), .int (a.fmod b)])) : (SS 6).φ [aI a, aI b] k := ⟨_, _, rfl, h0, h⟩
theorem t_divS (a b n : Int) (k : AV → Prop) (h0 : 0 < b) (h1 : (intBits a : Int) - n ≤ 4000) (h : k (.tup [.int (a / b), .int (a % b)])) :
    exs (exE SS 0 false 20 (nm "") (fnScope (stAt 6)) 10) (fnBody (stAt 6)) (entry [nm "a", nm "b", nm "n"] [aI a, aI b, aI n] ++ [(nm "divmod", .fn 6), (nm "_DIV_LIMIT", aI 4000)]) (fun _ => False) (back k) := by
  conv => arg 1; arg 6; whnf
  conv => arg 2; whnf
  conv => arg 3; simp only [entry, argA, List.cons_append, List.nil_append]
  with_reducible apply xs_cons
  repeat' (first | walk_at "m_base" | (with_reducible refine And.intro ?_ ?_))
  · with_reducible apply xs_cons
    repeat' (first | with_reducible apply ph6 | walk_at "m_base" | (with_reducible refine And.intro ?_ ?_))
    · omega
    · rw [Int.fdiv_eq_ediv_of_nonneg _ (by omega), Int.fmod_eq_emod_of_nonneg _ (by omega)]
      exact h
  · rename_i q; exact absurd h1 q
theorem ok_divS (T : TopFn W 6 f fd [nm "a", nm "b", nm "n"]) (G : GlobOk W SS (fnScope (stAt 6)) [(nm "divmod", .fn 6), (nm "_DIV_LIMIT", aI 4000)]) : FnOk W (SS 8) (.ref f) := by
  refine top_ok (S := SS) (N := 20) (n := 10) (on := nm "") T (by decide +kernel) G rfl fun as k h => ?_
  have h' : fDivS as k := h
  obtain ⟨a, b, n, rfl, h'⟩ := h'
  exact ⟨rfl, rfl, t_divS _ _ _ _ h'.2.1 h'.2.2.1 h'.2.2.2⟩
theorem ph4i {a : Int} {k : AV → Prop} (h : k (aB true)) : (SS 4).φ [aI a, .ty "int"] k := by
  exact ⟨_, _, rfl, by rw [if_pos rfl]; exact h⟩
theorem ph4b {a : Int} {k : AV → Prop} (h : k (aB false)) : (SS 4).φ [aI a, .ty "bool"] k := by
  exact ⟨_, _, rfl, by rw [if_neg (by decide), if_pos rfl]; exact h⟩
theorem ph5 {x : Str} {k : AV → Prop} (h : k (aB true)) : (SS 5).φ [.sc (.str x), .sc (.str (Str.ofString "__getitem__"))] k := ⟨_, _, rfl, rfl, h⟩
theorem ph7 {x y : Str} {k : AV → Prop} (h : k (aI (b2i (ltS (cs y) (cs x)) - b2i (ltS (cs x) (cs y))))) : (SS 7).φ [.sc (.str x), .sc (.str y)] k := ⟨_, _, rfl, h⟩
theorem t_told (x y : Str) (k : AV → Prop) (h : k (aI (b2i (ltS (cs y) (cs x)) - b2i (ltS (cs x) (cs y))))) :
    exs (exE SS 1 false 20 (nm "") (fnScope (stAt 22)) 10) (fnBody (stAt 22)) (entry [nm "text", nm "other"] [.sc (.str x), .sc (.str y)] ++ [(nm "_strcoll", .fn 7), (nm "isinstance", .fn 4), (nm "int", .ty "int"), (nm "bool", .ty "bool")]) (fun _ => False) (back k) := by
  conv => arg 1; arg 6; whnf
  conv => arg 2; whnf
  conv => arg 3; simp only [entry, argA, List.cons_append, List.nil_append]
  with_reducible apply xs_cons
  repeat' (first | with_reducible apply ph7 | walk_at "m_base" | (with_reducible refine And.intro ?_ ?_))
  generalize b2i (ltS (cs y) (cs x)) - b2i (ltS (cs x) (cs y)) = v at *
  with_reducible apply xs_cons
  repeat' (first | with_reducible apply ph4i | with_reducible apply ph4b | walk_at "m_base" | (with_reducible refine And.intro ?_ ?_))
  exact h
theorem ok_told (T : TopFn W 22 f fd [nm "text", nm "other"]) (G : GlobOk W SS (fnScope (stAt 22)) [(nm "_strcoll", .fn 7), (nm "isinstance", .fn 4), (nm "int", .ty "int"), (nm "bool", .ty "bool")]) : FnOk W (SS 23) (.ref f) := by
  refine top_ok (S := SS) (N := 20) (n := 10) (on := nm "") T (by decide +kernel) G rfl fun as k h => ?_
  have h' : fColl as k := h
  obtain ⟨x, y, rfl, h'⟩ := h'
  exact ⟨rfl, rfl, t_told _ _ _ h'⟩
theorem t_concat (x y : Str) (k : AV → Prop) (h0 : x.length + y.length ≤ sizeLine) (h : k (aS (cs x ++ cs y))) :
    exs (exE SS 0 false 20 (nm "") (fnScope (stAt 14)) 10) (fnBody (stAt 14)) (entry [nm "a", nm "b"] [.sc (.str x), .sc (.str y)] ++ [(nm "hasattr", .fn 5)]) (fun _ => False) (back k) := by
  conv => arg 1; arg 6; whnf
  conv => arg 2; whnf
  conv => arg 3; simp only [entry, argA, List.cons_append, List.nil_append]
  with_reducible apply xs_cons
  repeat' (first | with_reducible apply ph5 | walk_at "m_base" | (with_reducible refine And.intro ?_ ?_))
  with_reducible apply xs_cons
  repeat' (first | walk_at "m_base" | (with_reducible refine And.intro ?_ ?_))
  · exact h0
  · exact h
theorem ok_concat (T : TopFn W 14 f fd [nm "a", nm "b"]) (G : GlobOk W SS (fnScope (stAt 14)) [(nm "hasattr", .fn 5)]) : FnOk W (SS 16) (.ref f) := by
  refine top_ok (S := SS) (N := 20) (n := 10) (on := nm "") T (by decide +kernel) G rfl fun as k h => ?_
  have h' : fConcat as k := h
  obtain ⟨x, y, rfl, h'⟩ := h'
  exact ⟨rfl, rfl, t_concat _ _ _ h'.1 h'.2⟩
theorem t_lh (tg : Tag) (vs : List SV) (k : AV → Prop) (h0 : vs.length ≤ 2 ^ 20) (h : k (aI (vs.length : Int))) :
    exs (exE SS 0 false 20 (nm "") (fnScope (stAt 15)) 10) (fnBody (stAt 15)) (entry [nm "obj", nm "default"] [.list tg vs, aI 0] ++ [(nm "isinstance", .fn 4), (nm "int", .ty "int"), (nm "len", .fn 0)]) (fun _ => False) (back k) := by
  conv => arg 1; arg 6; whnf
  conv => arg 2; whnf
  conv => arg 3; simp only [entry, argA, List.cons_append, List.nil_append]
  with_reducible apply xs_cons
  repeat' (first | with_reducible apply ph4i | walk_at "m_base" | (with_reducible refine And.intro ?_ ?_))
  with_reducible apply xs_cons
  repeat' (first | walk_at "m_base" | (with_reducible refine And.intro ?_ ?_))
  with_reducible apply xs_cons
  repeat' (first | with_reducible apply ph0L | walk_at "m_base" | (with_reducible refine And.intro ?_ ?_))
  · exact h0
  · exact h
theorem ok_lh {t : Tok} (T : TopFn0 W 15 f fd) (hb : ∀ (s : Shared) (v : Value), GW W s.heap → BindsTo s fd ⟨[v], []⟩ [(nm "obj", v), (nm "default", .int 0 t)]) (G : GlobOk W SS (fnScope (stAt 15)) [(nm "isinstance", .fn 4), (nm "int", .ty "int"), (nm "len", .fn 0)]) : FnOk W (SS 17) (.ref f) := by
  refine def_ok (T.defOk0 (xs := [nm "obj", nm "default"]) (by decide +kernel) G) rfl (N := 20) (n := 10) (on := nm "") (ex := [.int 0 t]) (exA := [aI 0]) (fun _ => .cons (.int _ _) .nil) (fun s vals g hl => ?_) fun as k h => ?_
  · cases vals with
    | nil => simp at hl
    | cons v r => cases r with
      | nil => exact hb s v g
      | cons => simp at hl
  · have h' : fLh as k := h
    obtain ⟨tg1, vs, rfl, h'⟩ := h'
    refine ⟨rfl, rfl, ?_⟩
    rw [T.sc]
    exact t_lh _ _ _ h'.1 h'.2
theorem ok_has : FnOk W sgHas (.builtin "hasattr") := by
  refine ⟨.inl ⟨_, rfl⟩, fun A s vs as k Q E hR G har hφ hQ => ?_⟩
  have hφ' : fHas as k := hφ
  obtain ⟨s1, y, rfl, hφ'⟩ := hφ'
  obtain ⟨v, w, rfl, hv, hw⟩ := har.two
  cases hv; cases hw
  obtain ⟨rfl, hk⟩ := hφ'
  obtain ⟨h, g, d, t, os⟩ := s
  exact hasattr_gi (hQ _ _ (aB true) (.push (s := ⟨h, g, d, t, os⟩) (tk := t)) (SRep.bool _) hk)
end
end
section
open PySem PySem.W PyProof.Rows PySem.Calls PyProof.V PySem.Spec PySem.SeqAt
theorem divmod_of {A b q r : Int} (h : q * b + r = A) (h0 : 0 ≤ r) (h1 : r < b) : q = A / b ∧ r = A % b := by
  have := (Int.ediv_emod_unique (a := A) (r := r) (q := q) (b := b) (by omega)).mpr ⟨by rw [← h, Int.mul_comm b q]; omega, h0, h1⟩
  exact ⟨this.1.symm, this.2.symm⟩
theorem ph8 {a b n : Int} {k : AV → Prop} (h0 : 0 ≤ a) (h1 : 0 < b) (h2 : (intBits a : Int) - n ≤ 4000) (h : k (.tup [.int (a / b), .int (a % b)])) : (SS 8).φ [aI a, aI b, aI n] k := ⟨_, _, _, rfl, h0, h1, h2, h⟩
section
variable {W : Wd} {f : Addr} {fd : FuncData}
set_option maxRecDepth 10000
noncomputable def d3ρ (a12 a3 b b1 b2 : Int) (n : Nat) : Loc := [(nm "a12", aI a12), (nm "a3", aI a3), (nm "b", aI b), (nm "b1", aI b1), (nm "b2", aI b2), (nm "n", aI n), (nm "_div2n1n", .fn 8)]
noncomputable def d3I (a12 a3 b b1 b2 : Int) (n : Nat) (m : Nat) (ρ : Loc) : Prop := ∃ q r : Int, ρ = [(nm "a12", aI a12), (nm "a3", aI a3), (nm "b", aI b), (nm "b1", aI b1), (nm "b2", aI b2), (nm "n", aI n), (nm "_div2n1n", .fn 8), (nm "q", aI q), (nm "r", aI r)] ∧
  q * b + r = a12 * 2 ^ n + a3 ∧ r < b ∧ m = (-r).toNat
theorem t_d3rest (a12 a3 b b1 b2 q0 r0 : Int) (n : Nat) (k : AV → Prop) (h0 : 0 ≤ r0) (h1 : q0 * b1 + r0 = a12) (h2 : r0 * 2 ^ n + a3 - q0 * b2 < b) (h3 : 0 ≤ a3) (h4 : a3 < 2 ^ n) (hb : b = b1 * 2 ^ n + b2) (hbp : 0 < b) (hn : n ≤ 4000) (hq : intBits q0 ≤ 20000) (hb2 : intBits b2 ≤ 20000) (hr : intBits r0 ≤ 20000)
    (h : k (.tup [.int ((a12 * 2 ^ n + a3) / b), .int ((a12 * 2 ^ n + a3) % b)])) :
    exs (exE SS 1 true 20 (nm "") (fnScope (stAt 7)) 10) [gg 7 1, gg 7 2, gg 7 3] (setMany [nm "q", nm "r"] [aI q0, aI r0] (d3ρ a12 a3 b b1 b2 n)) (fun _ => False) (back k) := by
  conv => arg 1; arg 6; whnf
  conv => arg 2; arg 1; whnf
  conv => arg 2; arg 2; arg 1; whnf
  conv => arg 2; arg 2; arg 2; arg 1; whnf
  have hor : Builtin.bitOr (r0 * 2 ^ (n : Int).toNat) a3 = r0 * 2 ^ n + a3 := by rw [Int.toNat_natCast]; exact or_low n h0 h3 h4
  unfold d3ρ
  with_reducible apply xs_cons
  repeat' (first | walk_at "m_base" | (with_reducible refine And.intro ?_ ?_))
  · omega
  · have := lt27 (m := intBits r0 + n) (by omega)
    rw [Int.natCast_add] at this; exact this
  · exact IntMulOk.of_le hq hb2 (by decide)
  rw [hor]
  have hA : q0 * b + (r0 * 2 ^ n + a3 - q0 * b2) = a12 * 2 ^ n + a3 := by
    rw [hb, ← h1, Int.mul_add, Int.add_mul, ← Int.mul_assoc]; omega
  generalize r0 * 2 ^ n + a3 - q0 * b2 = r1 at *
  refine xs_cons (ex_while (d3I a12 a3 b b1 b2 n) ⟨_, q0, r1, ?_, hA, h2, rfl⟩ fun m ρ' hI => ?_)
  · walk_at "m_norm"
  · obtain ⟨q, r, rfl, e1, e2, rfl⟩ := hI
    repeat' (first | with_reducible apply xs_cons | walk_at "m_base" | (with_reducible refine And.intro ?_ ?_))
    · rename_i hneg
      refine ⟨_, ?_, q - 1, r + b, ?_, ?_, ?_, rfl⟩
      · omega
      · walk_at "m_norm"
      · rw [Int.sub_mul]; omega
      · omega
    · simp
    · rename_i hneg
      obtain ⟨e3, e4⟩ := divmod_of e1 (by omega) e2
      subst e3; subst e4
      exact h
theorem t_d3 (a12 a3 b b1 b2 : Int) (n : Nat) (k : AV → Prop) (h0 : 0 ≤ a12) (h1 : a12 < b) (h2 : 0 ≤ a3) (hn0 : 0 < n) (hn : n ≤ 4000) (h3 : a3 < 2 ^ n) (e1 : b1 = b / 2 ^ n) (e2 : b2 = b % 2 ^ n) (h4 : 0 < b1) (h5 : intBits b ≤ 8000) (h6 : (intBits a12 : Int) - n ≤ 4000)
    (h : k (.tup [.int ((a12 * 2 ^ n + a3) / b), .int ((a12 * 2 ^ n + a3) % b)])) :
    exs (exE SS 1 true 20 (nm "") (fnScope (stAt 7)) 10) (fnBody (stAt 7)) (entry [nm "a12", nm "a3", nm "b", nm "b1", nm "b2", nm "n"] [aI a12, aI a3, aI b, aI b1, aI b2, aI n] ++ [(nm "_div2n1n", .fn 8)]) (fun _ => False) (back k) := by
  have hp := pow_pos' n
  have hb : b = b1 * 2 ^ n + b2 := by rw [e1, e2, Int.mul_comm]; exact (Int.mul_ediv_add_emod b (2 ^ n)).symm
  have hb20 : 0 ≤ b2 := by rw [e2]; exact Int.emod_nonneg _ (by omega)
  have hb21 : b2 < 2 ^ n := by rw [e2]; exact Int.emod_lt_of_pos _ hp
  have hbp : 0 < b := by omega
  have ibb2 : intBits b2 ≤ 20000 := Nat.le_trans ((ib_le hb20).mpr hb21) (by omega)
  have iba : intBits a12 ≤ 8000 := ib_mono h0 (by omega) h5
  have ibb1 : intBits b1 ≤ 8000 := by rw [e1]; exact ib_div (by omega) (by omega) h5
  conv => arg 1; arg 6; whnf
  conv => arg 2; whnf
  conv => arg 3; simp only [entry, argA, List.cons_append, List.nil_append]
  have hfd := fd_pow (x := a12) n
  have hA := Int.mul_ediv_add_emod a12 (2 ^ n)
  have hdiv : a12 / 2 ^ n ≤ b1 := by
    rw [e1]; exact Int.ediv_le_ediv hp (by omega)
  with_reducible apply xs_cons
  repeat' (first | walk_at "m_base" | (with_reducible refine And.intro ?_ ?_))
  · omega
  · rename_i hq
    rw [hfd] at hq
    have hqP : b1 * 2 ^ n + a12 % 2 ^ n = a12 := by rw [← hq, Int.mul_comm]; exact hA
    have hmod := Int.emod_nonneg a12 (b := 2 ^ n) (by omega)
    have hbP : b1 * 1 ≤ b1 * 2 ^ n := Int.mul_le_mul_of_nonneg_left (by omega) (by omega)
    with_reducible apply xs_cons
    repeat' (first | walk_at "m_base" | (with_reducible refine And.intro ?_ ?_))
    · omega
    · have := lt27 (m := intBits 1 + n) (by have : intBits 1 = 1 := by decide +kernel
                                            omega)
      rw [Int.natCast_add] at this; exact this
    · omega
    · have := lt27 (m := intBits b1 + n) (by omega)
      rw [Int.natCast_add] at this; exact this
    · simp
    · refine t_d3rest a12 a3 b b1 b2 (1 * 2 ^ (n : Int).toNat - 1) (a12 - b1 * 2 ^ (n : Int).toNat + b1) n k ?_ ?_ ?_ h2 h3 hb hbp hn ?_ ibb2 ?_ h
      all_goals (rw [Int.toNat_natCast])
      · omega
      · rw [Int.one_mul, Int.sub_mul, Int.mul_comm (2 ^ n) b1]; omega
      · rw [Int.one_mul, Int.sub_mul, Int.one_mul]
        have h7 : (a12 - b1 * 2 ^ n + b1) * 2 ^ n ≤ (b1 + b2 - 1) * 2 ^ n := Int.mul_le_mul_of_nonneg_right (by omega) (by omega)
        rw [Int.sub_mul, Int.add_mul b1 b2, Int.one_mul, Int.mul_comm b2] at h7
        omega
      · rw [Int.one_mul]
        exact Nat.le_trans (ib_small (m := n) (by omega) (by omega)) (by omega)
      · exact Nat.le_trans (ib_mono (y := a12) (by omega) (by omega) iba) (by omega)
  · rename_i hq
    rw [hfd] at hq
    have hlt : a12 / 2 ^ n < b1 := by omega
    have hr0 := Int.emod_nonneg a12 (b := b1) (by omega)
    have hr1 := Int.emod_lt_of_pos a12 h4
    have hq0 : 0 ≤ a12 / b1 := Int.ediv_nonneg h0 (by omega)
    with_reducible apply xs_cons
    repeat' (first | with_reducible apply ph8 | walk_at "m_base" | (with_reducible refine And.intro ?_ ?_))
    · exact h0
    · exact h4
    · exact h6
    · simp
    · refine t_d3rest a12 a3 b b1 b2 (a12 / b1) (a12 % b1) n k hr0 ?_ ?_ h2 h3 hb hbp hn (Nat.le_trans (ib_div h0 (by omega) iba) (by omega)) ibb2 (Nat.le_trans (ib_mono hr0 (Int.le_of_lt hr1) ibb1) (by omega)) h
      · rw [Int.mul_comm]; exact Int.mul_ediv_add_emod a12 b1
      · have h7 : (a12 % b1) * 2 ^ n ≤ (b1 - 1) * 2 ^ n := Int.mul_le_mul_of_nonneg_right (by omega) (by omega)
        rw [Int.sub_mul, Int.one_mul] at h7
        have h8 : 0 ≤ a12 / b1 * b2 := Int.mul_nonneg hq0 hb20
        omega
theorem ok_d3 (T : TopFn W 7 f fd [nm "a12", nm "a3", nm "b", nm "b1", nm "b2", nm "n"]) (G : GlobOk W SS (fnScope (stAt 7)) [(nm "_div2n1n", .fn 8)]) : FnOk W (SS 9) (.ref f) := by
  refine top_ok (S := SS) (N := 20) (n := 10) (on := nm "") T (by decide +kernel) G rfl fun as k h => ?_
  have h' : fD3 as k := h
  obtain ⟨a12, a3, b, b1, b2, n, rfl, h'⟩ := h'
  obtain ⟨h0, h1, h2, hn0, hn, h3, e1, e2, h4, h5, h6, hk⟩ := h'
  obtain ⟨n, rfl⟩ := Int.eq_ofNat_of_zero_le (Int.le_of_lt hn0)
  rw [Int.toNat_natCast] at *
  exact ⟨rfl, rfl, t_d3 _ _ _ _ _ n _ h0 h1 h2 (by omega) (by omega) h3 e1 e2 h4 h5 h6 hk⟩
end
end
section
open PySem PySem.W PyProof.Rows PySem.Calls PyProof.V PySem.Spec PySem.SeqAt
theorem bits_sum {a n m : Nat} (h1 : a ≤ m) (h2 : m + n ≤ 2 ^ 27) : (a : Int) + n ≤ 2 ^ 27 := by
  have := lt27 (m := a + n) (by omega)
  rw [Int.natCast_add] at this; exact this
theorem ib1 : intBits 1 = 1 := by decide +kernel
theorem emod_two {a b : Int} : (a * 2) % (b * 2) = (a % b) * 2 := by
  rw [Int.mul_comm a 2, Int.mul_comm b 2, Int.mul_comm _ 2]; exact Int.mul_emod_mul_of_pos _ _ (by decide)
theorem ph9 {a12 a3 b b1 b2 : Int} {n : Nat} {k : AV → Prop} (h0 : 0 ≤ a12) (h1 : a12 < b) (h2 : 0 ≤ a3) (hn0 : 0 < n) (hn : n ≤ 4000) (h3 : a3 < 2 ^ n) (e1 : b1 = b / 2 ^ n) (e2 : b2 = b % 2 ^ n) (h4 : 0 < b1) (h5 : intBits b ≤ 8000) (h6 : (intBits a12 : Int) - n ≤ 4000)
    (h : k (.tup [.int ((a12 * 2 ^ n + a3) / b), .int ((a12 * 2 ^ n + a3) % b)])) : (SS 9).φ [aI a12, aI a3, aI b, aI b1, aI b2, aI n] k := by
  refine ⟨_, _, _, _, _, _, rfl, ?_⟩
  simp only [Int.toNat_natCast]
  exact ⟨h0, h1, h2, by omega, by omega, h3, e1, e2, h4, h5, h6, h⟩
section
variable {W : Wd} {f : Addr} {fd : FuncData}
set_option maxRecDepth 10000
noncomputable def dbρ (a b n p : Int) : Loc := [(nm "a", aI a), (nm "b", aI b), (nm "n", aI n), (nm "divmod", .fn 6), (nm "_DIV_LIMIT", aI 4000), (nm "_div3n2n", .fn 9), (nm "pad", aI p)]
theorem t_dbrest (a b : Int) (h : Nat) (p : Int) (k : AV → Prop) (ha : 0 ≤ a) (hh : 0 < h) (hh2 : h ≤ 3501) (hb0 : 2 ^ (2 * h - 1) ≤ b) (hb1 : b < 2 ^ (2 * h)) (hab : a < b * 2 ^ (2 * h))
    (hk : k (.tup [.int (a / b), .int (if p = 0 then a % b else a % b / 2)])) :
    exs (exE SS 2 true 20 (nm "") (fnScope (stAt 6)) 10) [gg 6 3, gg 6 4, gg 6 5, gg 6 6, gg 6 7, gg 6 8, gg 6 9] (dbρ a b ((2 * h : Nat) : Int) p) (fun _ => False) (back k) := by
  conv => arg 1; arg 6; whnf
  conv => arg 2; arg 1; whnf
  conv => arg 2; arg 2; arg 1; whnf
  conv => arg 2; arg 2; arg 2; arg 1; whnf
  conv => arg 2; arg 2; arg 2; arg 2; arg 1; whnf
  conv => arg 2; arg 2; arg 2; arg 2; arg 2; arg 1; whnf
  conv => arg 2; arg 2; arg 2; arg 2; arg 2; arg 2; arg 1; whnf
  conv => arg 2; arg 2; arg 2; arg 2; arg 2; arg 2; arg 2; arg 1; whnf
  unfold dbρ
  have e1 : (((2 * h : Nat) : Int)).fdiv (2 ^ (1 : Int).toNat) = (h : Int) := by
    rw [Int.fdiv_eq_ediv_of_nonneg _ (by decide), show ((2 : Int) ^ (1 : Int).toNat) = 2 from rfl]; omega
  have hp := pow_pos' h
  have hp2 := pow_pos' (2 * h)
  have hpp : (2 : Int) ^ (2 * h) = 2 ^ h * 2 ^ h := by rw [Nat.two_mul, Int.pow_add]
  have hpb : (2 : Int) ^ (2 * h - 1) = 2 ^ (h - 1) * 2 ^ h := by rw [← Int.pow_add, ← ns_two hh]
  have hp1 := pow_pos' (h - 1)
  have hbp : 0 < b := by have := pow_pos' (2 * h - 1); omega
  have hb1p : 0 < b / 2 ^ h := by
    have : (2 : Int) ^ (h - 1) ≤ b / 2 ^ h := (Int.le_ediv_iff_mul_le hp).mpr (by omega)
    omega
  have ibb : intBits b ≤ 8000 := Nat.le_trans ((ib_le (by omega)).mpr hb1) (by omega)
  have q0 : 0 ≤ a / 2 ^ (2 * h) := Int.ediv_nonneg ha (by omega)
  have q1 : a / 2 ^ (2 * h) < b := Int.ediv_lt_of_lt_mul hp2 hab
  have q2 : 0 ≤ a / 2 ^ h := Int.ediv_nonneg ha (by omega)
  have iba : intBits (a / 2 ^ (2 * h)) ≤ 2 * h := ib_mono q0 (Int.le_of_lt q1) ((ib_le (by omega)).mpr hb1)
  have m1 : Builtin.bitAnd b (2 ^ h - 1) = b % 2 ^ h := and_low h (by omega)
  have m2 : Builtin.bitAnd (a / 2 ^ h) (2 ^ h - 1) = a / 2 ^ h % 2 ^ h := and_low h q2
  have m3 : Builtin.bitAnd a (2 ^ h - 1) = a % 2 ^ h := and_low h ha
  have hhi : a / 2 ^ (2 * h) * 2 ^ h + a / 2 ^ h % 2 ^ h = a / 2 ^ h := by
    rw [hpp, ← ediv_ediv' (by omega), Int.mul_comm]; exact Int.mul_ediv_add_emod _ _
  have hlo : a / 2 ^ h * 2 ^ h + a % 2 ^ h = a := by rw [Int.mul_comm]; exact Int.mul_ediv_add_emod _ _
  with_reducible apply xs_cons
  repeat' (first | walk_at "m_base" | (with_reducible refine And.intro ?_ ?_))
  · decide
  rw [e1]
  with_reducible apply xs_cons
  repeat' (first | walk_at "m_base" | (with_reducible refine And.intro ?_ ?_))
  · omega
  · rw [show Builtin.Int.intBits 1 = 1 from ib1]; exact bits_sum (m := 1) (by omega) (by omega)
  rw [Int.one_mul, Int.toNat_natCast]
  with_reducible apply xs_cons
  repeat' (first | walk_at "m_base" | (with_reducible refine And.intro ?_ ?_))
  · omega
  · simp
  rw [fd_pow h, m1]
  generalize hA : a / 2 ^ (2 * h) = A at *
  have l0 : 0 ≤ a / 2 ^ h % 2 ^ h := Int.emod_nonneg _ (by omega)
  have l1 : a / 2 ^ h % 2 ^ h < 2 ^ h := Int.emod_lt_of_pos _ hp
  have l2 : 0 ≤ a % 2 ^ h := Int.emod_nonneg _ (by omega)
  have l3 : a % 2 ^ h < 2 ^ h := Int.emod_lt_of_pos _ hp
  with_reducible apply xs_cons
  repeat' (first | with_reducible apply ph9 | walk_at "m_base" | (with_reducible refine And.intro ?_ ?_))
  all_goals (try rw [fd_pow (2 * h)])
  all_goals (try rw [hA])
  all_goals (try rw [fd_pow h])
  all_goals (try rw [m2])
  · omega
  · omega
  · exact q0
  · exact q1
  · exact l0
  · exact hh
  · omega
  · exact l1
  · rfl
  · rfl
  · exact hb1p
  · exact ibb
  · omega
  · simp
  rw [hhi]
  have r0 : 0 ≤ a / 2 ^ h % b := Int.emod_nonneg _ (by omega)
  have r1 : a / 2 ^ h % b < b := Int.emod_lt_of_pos _ hbp
  have hqr := Int.mul_ediv_add_emod (a / 2 ^ h) b
  have p0 : 0 ≤ a / 2 ^ h / b := Int.ediv_nonneg q2 (by omega)
  have p1 : a / 2 ^ h / b < 2 ^ h := by
    refine Int.ediv_lt_of_lt_mul hbp (Int.ediv_lt_of_lt_mul hp ?_)
    rw [Int.mul_comm (2 ^ h) b, Int.mul_assoc, ← hpp]; exact hab
  have ibr : intBits (a / 2 ^ h % b) ≤ 2 * h := ib_mono r0 (Int.le_of_lt r1) ((ib_le (by omega)).mpr hb1)
  generalize a / 2 ^ h / b = Q1 at *
  generalize a / 2 ^ h % b = R1 at *
  with_reducible apply xs_cons
  repeat' (first | with_reducible apply ph9 | walk_at "m_base" | (with_reducible refine And.intro ?_ ?_))
  all_goals (try rw [m3])
  · exact r0
  · exact r1
  · exact l2
  · exact hh
  · omega
  · exact l3
  · rfl
  · rfl
  · exact hb1p
  · exact ibb
  · omega
  · simp
  have s0 : 0 ≤ (R1 * 2 ^ h + a % 2 ^ h) / b := Int.ediv_nonneg (by have := Int.mul_nonneg r0 (Int.le_of_lt hp); omega) (by omega)
  have s1 : (R1 * 2 ^ h + a % 2 ^ h) / b < 2 ^ h := by
    refine Int.ediv_lt_of_lt_mul hbp ?_
    have : R1 * 2 ^ h ≤ (b - 1) * 2 ^ h := Int.mul_le_mul_of_nonneg_right (by omega) (by omega)
    rw [Int.sub_mul, Int.one_mul] at this
    rw [Int.mul_comm (2 ^ h) b]; omega
  have hqr2 := Int.mul_ediv_add_emod (R1 * 2 ^ h + a % 2 ^ h) b
  have t0 : 0 ≤ (R1 * 2 ^ h + a % 2 ^ h) % b := Int.emod_nonneg _ (by omega)
  have t1 : (R1 * 2 ^ h + a % 2 ^ h) % b < b := Int.emod_lt_of_pos _ hbp
  generalize (R1 * 2 ^ h + a % 2 ^ h) / b = Q2 at *
  generalize (R1 * 2 ^ h + a % 2 ^ h) % b = R2 at *
  have hfin : (Q1 * 2 ^ h + Q2) * b + R2 = a := by
    rw [Int.add_mul]
    have : Q1 * 2 ^ h * b = (b * Q1) * 2 ^ h := by rw [Int.mul_assoc, Int.mul_comm (2 ^ h) b, ← Int.mul_assoc, Int.mul_comm Q1 b]
    rw [this]
    have e5 : b * Q1 * 2 ^ h + R1 * 2 ^ h = (a / 2 ^ h) * 2 ^ h := by rw [← Int.add_mul, hqr]
    rw [Int.mul_comm Q2 b]; omega
  obtain ⟨f1, f2⟩ := divmod_of hfin t0 t1
  have hor : Builtin.bitOr (Q1 * 2 ^ (h : Int).toNat) Q2 = Q1 * 2 ^ h + Q2 := by rw [Int.toNat_natCast]; exact or_low h p0 s0 s1
  have ibq : intBits Q1 ≤ h := (ib_le p0).mpr p1
  have hret : ∀ R3 : Int, R3 = (if p = 0 then a % b else a % b / 2) → exs (exE SS 2 true 20 (nm "") (fnScope (stAt 6)) 10) [gg 6 9] [(nm "a", aI a), (nm "b", aI b), (nm "n", aI (2 * h : Nat)), (nm "divmod", .fn 6), (nm "_DIV_LIMIT", aI 4000), (nm "_div3n2n", .fn 9), (nm "pad", aI p), (nm "half_n", aI h), (nm "mask", aI (2 ^ h - 1)), (nm "b1", aI (b / 2 ^ h)), (nm "b2", aI (b % 2 ^ h)), (nm "q1", aI Q1), (nm "r", aI R3), (nm "q2", aI Q2)] (fun _ => False) (back k) := by
    intro R3 hR3
    conv => arg 1; arg 6; whnf
    conv => arg 2; arg 1; whnf
    with_reducible apply xs_cons
    repeat' (first | walk_at "m_base" | (with_reducible refine And.intro ?_ ?_))
    · omega
    · exact bits_sum ibq (by omega)
    · simp
    · rw [hor, hR3, f1]
      exact hk
  walk_at "m_norm"
  with_reducible apply xs_cons
  repeat' (first | walk_at "m_base" | (with_reducible refine And.intro ?_ ?_))
  · rename_i hp0
    with_reducible apply xs_cons
    repeat' (first | walk_at "m_base" | (with_reducible refine And.intro ?_ ?_))
    · omega
    walk_at "m_norm"
    refine hret (R2.fdiv (2 ^ (1 : Int).toNat)) ?_
    rw [if_neg hp0, ← f2, Int.fdiv_eq_ediv_of_nonneg _ (by decide)]
    rfl
  · rename_i hp0
    refine hret R2 ?_
    rw [if_pos (by omega), ← f2]
theorem t_divB (a b : Int) (n : Nat) (k : AV → Prop) (ha : 0 ≤ a) (hn : 0 < n) (hn2 : n ≤ 7000) (hb0 : 2 ^ (n - 1) ≤ b) (hb1 : b < 2 ^ n) (hab : a < b * 2 ^ n) (hk : k (.tup [.int (a / b), .int (a % b)])) :
    exs (exE SS 2 true 20 (nm "") (fnScope (stAt 6)) 10) (fnBody (stAt 6)) (entry [nm "a", nm "b", nm "n"] [aI a, aI b, aI n] ++ [(nm "divmod", .fn 6), (nm "_DIV_LIMIT", aI 4000), (nm "_div3n2n", .fn 9)]) (fun _ => False) (back k) := by
  have hp := pow_pos' n
  have hp1 := pow_pos' (n - 1)
  have hbp : 0 < b := by omega
  have ibb : intBits b ≤ n := (ib_le (by omega)).mpr hb1
  have iba : intBits a ≤ 2 * n := by
    rw [ib_le ha, Nat.two_mul, Int.pow_add]
    have : b * 2 ^ n ≤ 2 ^ n * 2 ^ n := Int.mul_le_mul_of_nonneg_right (by omega) (by omega)
    omega
  have hband : Builtin.bitAnd (n : Int) 1 = (n : Int) % 2 := and_low (x := n) 1 (by omega)
  conv => arg 1; arg 6; whnf
  conv => arg 2; whnf
  conv => arg 3; simp only [entry, argA, List.cons_append, List.nil_append]
  with_reducible apply xs_cons
  repeat' (first | walk_at "m_base" | (with_reducible refine And.intro ?_ ?_))
  · with_reducible apply xs_cons
    repeat' (first | with_reducible apply ph6 | walk_at "m_base" | (with_reducible refine And.intro ?_ ?_))
    · omega
    · rw [Int.fdiv_eq_ediv_of_nonneg _ (by omega), Int.fmod_eq_emod_of_nonneg _ (by omega)]
      exact hk
  with_reducible apply xs_cons
  repeat' (first | walk_at "m_base" | (with_reducible refine And.intro ?_ ?_))
  rw [hband]
  with_reducible apply xs_cons
  repeat' (first | walk_at "m_base" | (with_reducible refine And.intro ?_ ?_))
  · rename_i hodd
    with_reducible apply xs_cons
    repeat' (first | walk_at "m_base" | (with_reducible refine And.intro ?_ ?_))
    · omega
    · exact bits_sum (n := 1) iba (by omega)
    with_reducible apply xs_cons
    repeat' (first | walk_at "m_base" | (with_reducible refine And.intro ?_ ?_))
    · omega
    · exact bits_sum (n := 1) ibb (by omega)
    with_reducible apply xs_cons
    repeat' (first | walk_at "m_base" | (with_reducible refine And.intro ?_ ?_))
    walk_at "m_norm"
    obtain ⟨h, hh⟩ : ∃ h, n + 1 = 2 * h := ⟨(n + 1) / 2, by omega⟩
    have e2 : (2 : Int) ^ (2 * h) = 2 * 2 ^ n := by rw [← hh, Int.pow_succ]; omega
    have e3 : (2 : Int) ^ (2 * h - 1) = 2 ^ n := by congr 1; omega
    have e4 : (2 : Int) ^ n = 2 * 2 ^ (n - 1) := by rw [← Int.pow_succ']; congr 1; omega
    have ec : (n : Int) + 1 = ((2 * h : Nat) : Int) := by omega
    have et : (2 : Int) ^ (1 : Int).toNat = 2 := rfl
    rw [ec, et]
    refine t_dbrest (a * 2) (b * 2) h ((n : Int) % 2) k (by omega) (by omega) (by omega) (by rw [e3]; omega) (by rw [e2]; omega) ?_ ?_
    · rw [e2, Int.mul_assoc b 2, Int.mul_comm b, Int.mul_assoc, Int.mul_assoc, Int.mul_comm _ b]
      omega
    · have hne : ¬ ((n : Int) % 2 = 0) := by omega
      rw [if_neg hne, Int.mul_ediv_mul_of_pos_left _ _ (by decide), emod_two]
      rw [Int.mul_ediv_cancel _ (by decide)]
      exact hk
  · rename_i heven
    walk_at "m_norm"
    obtain ⟨h, hh⟩ : ∃ h, n = 2 * h := ⟨n / 2, by omega⟩
    subst hh
    refine t_dbrest a b h _ k ha (by omega) (by omega) hb0 hb1 hab ?_
    rw [if_pos (by omega)]
    exact hk
theorem ok_divB (T : TopFn W 6 f fd [nm "a", nm "b", nm "n"]) (G : GlobOk W SS (fnScope (stAt 6)) [(nm "divmod", .fn 6), (nm "_DIV_LIMIT", aI 4000), (nm "_div3n2n", .fn 9)]) : FnOk W (SS 10) (.ref f) := by
  refine top_ok (S := SS) (N := 20) (n := 10) (on := nm "") T (by decide +kernel) G rfl fun as k h => ?_
  have h' : fDivB as k := h
  obtain ⟨a, b, n, rfl, h'⟩ := h'
  obtain ⟨h0, h1, h2, h3, h4, h5, hk⟩ := h'
  obtain ⟨n, rfl⟩ := Int.eq_ofNat_of_zero_le (Int.le_of_lt h1)
  rw [Int.toNat_natCast] at *
  exact ⟨rfl, rfl, t_divB _ _ n _ h0 (by omega) (by omega) h3 h4 h5 hk⟩
end
end
section
open PySem PySem.W PyProof.Rows PySem.Calls PyProof.V PySem.Spec PySem.SeqAt
theorem ph10 {a b : Int} {n : Nat} {k : AV → Prop} (ha : 0 ≤ a) (hn : 0 < n) (hn2 : n ≤ 7000) (hb0 : 2 ^ (n - 1) ≤ b) (hb1 : b < 2 ^ n) (hab : a < b * 2 ^ n) (hk : k (.tup [.int (a / b), .int (a % b)])) : (SS 10).φ [aI a, aI b, aI n] k := by
  refine ⟨_, _, _, rfl, ?_⟩
  simp only [Int.toNat_natCast]
  exact ⟨ha, by omega, by omega, hb0, hb1, hab, hk⟩
theorem ph11 {a : Int} {n : Nat} {k : AV → Prop} (ha : 0 ≤ a) (hn : 0 < n) (hb : intBits a ≤ 20000) (hn2 : n ≤ 20000) (hk : k (.list .tmp ((dg n a (ceilD (intBits a) n)).map .int))) : (SS 11).φ [aI a, aI n] k := by
  refine ⟨_, _, rfl, ?_⟩
  simp only [Int.toNat_natCast]
  exact ⟨ha, by omega, hb, by omega, hk⟩
theorem ph12 {tg : Tag} {ds : List Int} {n : Nat} {k : AV → Prop} (hn : 0 < n) (hn2 : n ≤ 20000) (hl : ds.length ≤ 2 ^ 15) (hnl : n * ds.length ≤ 2 ^ 20) (hd : ∀ d ∈ ds, 0 ≤ d ∧ d < 2 ^ n) (hk : k (aI (und n ds))) : (SS 12).φ [.list tg (ds.map .int), aI n] k := by
  refine ⟨_, _, _, rfl, ?_⟩
  simp only [Int.toNat_natCast]
  exact ⟨by omega, by omega, ds, rfl, hl, by exact_mod_cast hnl, hd, hk⟩
section
variable {W : Wd} {f : Addr} {fd : FuncData}
set_option maxRecDepth 10000
noncomputable def dmI (a b : Int) (n m : Nat) (i : Nat) (ρ : Loc) : Prop := ∃ (qs : List Int) (r : Int), ρ = [(nm "a", aI a), (nm "b", aI b), (nm "_int2digits", .fn 11), (nm "reversed", .ty "reversed"), (nm "_div2n1n", .fn 10), (nm "_digits2int", .fn 12), (nm "n", aI n), (nm "a_digits", .list .shr ((dg n a m).map .int)), (nm "r", aI r), (nm "q_digits", .list .own (qs.map .int))] ∧
  qs.length = i ∧ (∀ d ∈ qs, 0 ≤ d ∧ d < 2 ^ n) ∧ und n qs.reverse = a / 2 ^ (n * (m - i)) / b ∧ r = a / 2 ^ (n * (m - i)) % b
theorem dg_get {n : Nat} {a : Int} {m i : Nat} {v : SV} (h : ((dg n a m).map SV.int).reverse[i]? = some v) : i < m ∧ v = .int (a / 2 ^ (n * (m - 1 - i)) % 2 ^ n) := by
  have hi : i < m := by
    have := (List.getElem?_eq_some_iff.mp h).1
    simpa [dg_len] using this
  refine ⟨hi, ?_⟩
  rw [List.getElem?_reverse (by simpa [dg_len] using hi)] at h
  simp only [List.length_map, dg_len] at h
  rw [List.getElem?_map, dg, List.getElem?_map, List.getElem?_range (by omega)] at h
  simpa using h.symm
theorem t_dm (a b : Int) (k : AV → Prop) (ha : 0 ≤ a) (hb : 0 < b) (iba : intBits a ≤ 14000) (ibb : intBits b ≤ 7000) (hk : k (.tup [.int (a / b), .int (a % b)])) :
    exs (exE SS 18 true 20 (nm "q_digits") (fnScope (stAt 10)) 10) (fnBody (stAt 10)) (entry [nm "a", nm "b"] [aI a, aI b] ++ [(nm "_int2digits", .fn 11), (nm "reversed", .ty "reversed"), (nm "_div2n1n", .fn 10), (nm "_digits2int", .fn 12)]) (fun _ => False) (back k) := by
  have hb1 := ib_lt (x := b) (by omega)
  have hn : 0 < intBits b := by
    rcases Nat.eq_zero_or_pos (intBits b) with q | q
    · rw [q] at hb1; omega
    · exact q
  have hb0 : 2 ^ (intBits b - 1) ≤ b := by
    rcases Int.lt_or_le b (2 ^ (intBits b - 1)) with q | q
    · have := (ib_le (by omega)).mpr q; omega
    · exact q
  have hce := ceilD_le (b := intBits a) hn
  have hce2 := ceilD_mul (b := intBits a) hn
  have hce3 := ceilD_mul2 (b := intBits a) hn
  have ham : a < 2 ^ (intBits b * ceilD (intBits a) (intBits b)) := Int.lt_of_lt_of_le (ib_lt ha) (by
    rw [← natCast_pow', ← natCast_pow']; exact_mod_cast Nat.pow_le_pow_right (by decide) hce2)
  conv => arg 1; arg 6; whnf
  conv => arg 2; whnf
  conv => arg 3; simp only [entry, argA, List.cons_append, List.nil_append]
  with_reducible apply xs_cons
  repeat' (first | walk_at "m_base" | (with_reducible refine And.intro ?_ ?_))
  generalize hN : intBits b = n at *
  unfold intBits at hN
  rw [hN]
  generalize hM : ceilD (intBits a) n = m at *
  with_reducible apply xs_cons
  repeat' (first | with_reducible apply ph11 | walk_at "m_base" | (with_reducible refine And.intro ?_ ?_))
  · exact ha
  · exact hn
  · omega
  · omega
  rw [hM]
  with_reducible apply xs_cons
  repeat' (first | walk_at "m_base" | (with_reducible refine And.intro ?_ ?_))
  with_reducible apply xs_cons
  repeat' (first | walk_at "m_base" | (with_reducible refine And.intro ?_ ?_))
  · simp
  refine xs_cons (ex_for rfl (by decide +kernel) (fun _ _ => rfl) ?_)
  repeat' (first | walk_at "m_base")
  · simp [dg_len]; omega
  refine fo_go (dmI a b n m) rfl rfl ?_ ?_ ?_ ?_
  · simp [dg_len]; omega
  · refine ⟨[], 0, ?_, rfl, nofun, ?_, ?_⟩
    · walk_at "m_norm"
    · rw [Nat.sub_zero, Int.ediv_eq_zero_of_lt ha ham]; simp [und]
    · rw [Nat.sub_zero, Int.ediv_eq_zero_of_lt ha ham]; simp
  · intro i v ρ' hv hI
    obtain ⟨qs, r, rfl, hl, hd, hu, hr⟩ := hI
    obtain ⟨hi, rfl⟩ := dg_get hv
    have hj : n * (m - i) = n * (m - 1 - i) + n := by rw [← Nat.mul_succ, ← ns_succ hi]
    have hj2 : m - (i + 1) = m - 1 - i := by rw [Nat.add_comm, Nat.sub_sub]
    have hp := pow_pos' n
    have hpj := pow_pos' (n * (m - 1 - i))
    rw [hj, Int.pow_add, ← ediv_ediv' (by omega)] at hu hr
    have hH0 : 0 ≤ a / 2 ^ (n * (m - 1 - i)) := Int.ediv_nonneg ha (by omega)
    have hq1 : qs.length = i := hl
    unfold dmI
    rw [hj2]
    generalize a / 2 ^ (n * (m - 1 - i)) = H at *
    have hd0 := Int.emod_nonneg H (b := 2 ^ n) (by omega)
    have hd1 := Int.emod_lt_of_pos H hp
    have hHd := Int.mul_ediv_add_emod H (2 ^ n)
    have hG0 : 0 ≤ H / 2 ^ n := Int.ediv_nonneg hH0 (by omega)
    have hr0 : 0 ≤ r := by rw [hr]; exact Int.emod_nonneg _ (by omega)
    have hr1 : r < b := by rw [hr]; exact Int.emod_lt_of_pos _ hb
    have hGb := Int.mul_ediv_add_emod (H / 2 ^ n) b
    rw [← hr] at hGb
    generalize H % 2 ^ n = d at *
    generalize hGG : H / 2 ^ n = G at *
    have hrp : 0 ≤ r * 2 ^ n := Int.mul_nonneg hr0 (by omega)
    have hrb : r * 2 ^ n ≤ (b - 1) * 2 ^ n := Int.mul_le_mul_of_nonneg_right (by omega) (by omega)
    rw [Int.sub_mul, Int.one_mul] at hrb
    have hx : H = r * 2 ^ n + d + b * (G / b * 2 ^ n) := by
      rw [← hHd, ← Int.mul_assoc]
      have : 2 ^ n * G = b * (G / b) * 2 ^ n + r * 2 ^ n := by rw [← Int.add_mul, hGb, Int.mul_comm]
      omega
    have hx1 : H / b = (r * 2 ^ n + d) / b + G / b * 2 ^ n := by rw [hx, Int.add_mul_ediv_left _ _ (by omega)]
    have hx2 : H % b = (r * 2 ^ n + d) % b := by rw [hx, Int.add_mul_emod_self_left]
    with_reducible apply xs_cons
    repeat' (first | with_reducible apply ph10 | walk_at "m_base" | (with_reducible refine And.intro ?_ ?_))
    · omega
    · exact bits_sum (m := 7000) (Nat.le_trans ((ib_le hr0).mpr (by omega : r < 2 ^ n)) ibb) (by omega)
    all_goals (try rw [Int.toNat_natCast])
    · omega
    · exact hn
    · exact ibb
    · exact hb0
    · exact hb1
    · omega
    · simp
    have hQ0 : 0 ≤ (r * 2 ^ n + d) / b := Int.ediv_nonneg (by omega) (by omega)
    have hQ1 : (r * 2 ^ n + d) / b < 2 ^ n := by
      refine Int.ediv_lt_of_lt_mul hb ?_
      rw [Int.mul_comm (2 ^ n) b]; omega
    generalize (r * 2 ^ n + d) / b = Q at *
    generalize (r * 2 ^ n + d) % b = R2 at *
    with_reducible apply xs_cons
    repeat' (first | walk_at "m_base" | (with_reducible refine And.intro ?_ ?_))
    · simp; omega
    · refine ⟨qs ++ [Q], R2, ?_, by simp [hl], ?_, ?_, hx2.symm⟩
      · simp only [List.map_append, List.map_cons, List.map_nil]
        walk_at "m_norm"
      · intro d' hd'
        rcases List.mem_append.mp hd' with q | q
        · exact hd d' q
        · rw [List.mem_singleton] at q; subst q; exact ⟨hQ0, hQ1⟩
      · rw [List.reverse_append, List.reverse_cons, List.reverse_nil, List.nil_append, List.singleton_append, und, hu, hx1, Int.mul_comm]
  · intro ρ' hI
    obtain ⟨qs, r, rfl, hl, hd, hu, hr⟩ := hI
    simp only [List.length_reverse, List.length_map, dg_len, Nat.sub_self, Nat.mul_zero, Int.pow_zero, Int.ediv_one] at hl hu hr
    have hn15 : n * qs.length ≤ 2 ^ 20 := by rw [hl]; omega
    with_reducible apply xs_cons
    repeat' (first | walk_at "m_base" | (with_reducible refine And.intro ?_ ?_))
    · simp; omega
    rw [← List.map_reverse]
    with_reducible apply xs_cons
    repeat' (first | with_reducible apply ph12 | walk_at "m_base" | (with_reducible refine And.intro ?_ ?_))
    · exact hn
    · omega
    · rw [List.length_reverse]; omega
    · rw [List.length_reverse]; exact hn15
    · intro d hd'; exact hd d (List.mem_reverse.mp hd')
    rw [hu]
    with_reducible apply xs_cons
    repeat' (first | walk_at "m_base" | (with_reducible refine And.intro ?_ ?_))
    · simp
    · rw [hr]; exact hk
theorem ok_dm (T : TopFn W 10 f fd [nm "a", nm "b"]) (G : GlobOk W SS (fnScope (stAt 10)) [(nm "_int2digits", .fn 11), (nm "reversed", .ty "reversed"), (nm "_div2n1n", .fn 10), (nm "_digits2int", .fn 12)]) : FnOk W (SS 13) (.ref f) := by
  refine top_ok (S := SS) (N := 20) (n := 10) (on := nm "q_digits") T (by decide +kernel) G rfl fun as k h => ?_
  have h' : fDm as k := h
  obtain ⟨a, b, rfl, h'⟩ := h'
  exact ⟨rfl, rfl, t_dm _ _ _ h'.1 h'.2.1 h'.2.2.1 h'.2.2.2.1 h'.2.2.2.2⟩
end
end
section
open PySem PySem.W PyProof.Rows PySem.Calls PyProof.V PySem.Spec PySem.SeqAt
theorem ph13 {a b : Int} {k : AV → Prop} (h0 : 0 ≤ a) (h1 : 0 < b) (h2 : intBits a ≤ 14000) (h3 : intBits b ≤ 7000) (h : k (.tup [.int (a / b), .int (a % b)])) : (SS 13).φ [aI a, aI b] k := ⟨_, _, rfl, h0, h1, h2, h3, h⟩
theorem ph14 {a b : Int} {k : AV → Prop} (h : k (aI (a + b))) : (SS 14).φ [aI a, aI b] k := ⟨_, _, rfl, h⟩
theorem ph15 {a b : Int} {k : AV → Prop} (h0 : IntMulOk a b) (h : k (aI (a * b))) : (SS 15).φ [aI a, aI b] k := ⟨_, _, rfl, h0, h⟩
theorem ph19 {a b : Int} {k : AV → Prop} (h : k (aI (a - b))) : (SS 19).φ [aI a, aI b] k := ⟨_, _, rfl, h⟩
theorem fmod_pos {a b : Int} (h : 0 < b) : a.fmod b = a % b := Int.fmod_eq_emod_of_nonneg _ (by omega)
theorem fdiv_pos {a b : Int} (h : 0 < b) : a.fdiv b = a / b := Int.fdiv_eq_ediv_of_nonneg _ (by omega)
section
variable {W : Wd} {f : Addr} {fd : FuncData}
set_option maxRecDepth 10000
theorem t_part (a b : Int) (cl : List Int) (k : AV → Prop) (tg : Tag) (h1 : 0 ≤ a) (h2 : 0 < b) (h3 : intBits a ≤ 1000) (h4 : intBits b ≤ 1000) (h5 : cl.length = 7) (hk : k (aI (a / b))) :
    exs (exE SS 19 true 20 (nm "") (fnScope (stAt 23)) 10) (fnBody (stAt 23)) (entry [nm "upper", nm "lower", nm "cells"] [aI a, aI b, .list tg (cl.map .int)] ++ [(nm "_divmod_pos", .fn 13), (nm "add", .fn 14), (nm "mul", .fn 15), (nm "isub", .fn 19)]) (fun _ => False) (back k) := by
  conv => arg 1; arg 6; whnf
  conv => arg 2; whnf
  conv => arg 3; simp only [entry, argA, List.cons_append, List.nil_append]
  obtain ⟨P, hP, hP0, hPb⟩ : ∃ P : Int, (2:Int) ^ (4300:Int).toNat = P ∧ 0 < P ∧ intBits P ≤ 4301 := ⟨_, rfl, pow_pos' _, ib_pow _⟩
  with_reducible apply xs_cons
  repeat' (first | with_reducible apply ph13 | with_reducible apply ph14 | with_reducible apply ph15 | with_reducible apply ph19 | walk_at "m_base" | (with_reducible refine And.intro ?_ ?_))
  · decide
  · rw [h5]; decide
  · rw [h5]; decide
  · decide
  · decide +kernel
  · rw [hP]; omega
  rw [hP, fmod_pos hP0]
  have u0 := Int.emod_nonneg (cl.getD (Int.toNat 6) 0) (b := P) (by omega)
  have u1 := Int.emod_lt_of_pos (cl.getD (Int.toNat 6) 0) hP0
  generalize cl.getD (Int.toNat 6) 0 % P = u' at *
  have ibu : intBits (1 + u') ≤ 4301 := ib_mono (by omega) (by omega) hPb
  obtain ⟨u, hu, hu0⟩ : ∃ u : Int, 1 + u' = u ∧ 0 < u := ⟨_, rfl, by omega⟩
  rw [hu] at ibu
  rw [hu]
  with_reducible apply xs_cons
  repeat' (first | walk_at "m_base" | (with_reducible refine And.intro ?_ ?_))
  · decide
  · rw [h5]; decide
  · rw [h5]; decide
  · omega
  · decide
  · rw [h5]; decide
  · rw [h5]; decide
  · omega
  · simp
  rw [fmod_pos hu0, fmod_pos hu0]
  have f0 := Int.emod_nonneg (cl.getD (Int.toNat 4) 0) (b := u) (by omega)
  have f1 := Int.emod_lt_of_pos (cl.getD (Int.toNat 4) 0) hu0
  have n0 := Int.emod_nonneg (cl.getD (Int.toNat 5) 0) (b := u) (by omega)
  have n1 := Int.emod_lt_of_pos (cl.getD (Int.toNat 5) 0) hu0
  generalize cl.getD (Int.toNat 4) 0 % u = far at *
  generalize cl.getD (Int.toNat 5) 0 % u = near at *
  have ibf : intBits far ≤ 4301 := ib_mono f0 (by omega) ibu
  have ibn : intBits near ≤ 4301 := ib_mono n0 (by omega) ibu
  have ib1' := ib_mul ibf h4
  have ib2' := ib_add h3 ib1'
  have ib3' := ib_mul ib2' ibu
  have ib4' := ib_add ib3' ibn
  have ib5' := ib_mul h4 ibu
  have hfb : 0 ≤ far * b := Int.mul_nonneg f0 (by omega)
  have hX0 : 0 ≤ (a + far * b) * u := Int.mul_nonneg (by omega) (by omega)
  have hbu : 0 < b * u := Int.mul_pos h2 hu0
  have m0 := Int.emod_nonneg a (b := b) (by omega)
  have m1 := Int.emod_lt_of_pos a h2
  have hab := Int.mul_ediv_add_emod a b
  have hd0 : 0 ≤ a / b := Int.ediv_nonneg h1 (by omega)
  have ibd := ib_div (y := b) h1 (by omega) h3
  generalize a / b = A at *
  generalize a % b = M at *
  have hMu0 : 0 ≤ M * u := Int.mul_nonneg m0 (by omega)
  have hMu1 : M * u ≤ (b - 1) * u := Int.mul_le_mul_of_nonneg_right (by omega) (by omega)
  rw [Int.sub_mul, Int.one_mul] at hMu1
  have hdm : (A + far) * (b * u) + (M * u + near) = (a + far * b) * u + near := by
    have e1 : (A + far) * (b * u) = (b * A) * u + far * b * u := by
      rw [Int.add_mul, ← Int.mul_assoc, ← Int.mul_assoc, Int.mul_comm A b]
    have e2 : (a + far * b) * u = (b * A) * u + M * u + far * b * u := by rw [← hab, Int.add_mul, Int.add_mul]
    omega
  obtain ⟨d1, d2⟩ := divmod_of hdm (by omega) (by omega)
  with_reducible apply xs_cons
  repeat' (first | with_reducible apply ph13 | with_reducible apply ph14 | with_reducible apply ph15 | with_reducible apply ph19 | walk_at "m_base" | (with_reducible refine And.intro ?_ ?_))
  · exact IntMulOk.of_le ibf h4 (by decide)
  · exact IntMulOk.of_le ib2' ibu (by decide)
  · exact IntMulOk.of_le h4 ibu (by decide)
  · omega
  · exact hbu
  · exact Nat.le_trans ib4' (by decide)
  · exact Nat.le_trans ib5' (by decide)
  · simp
  rw [← d1, ← d2]
  with_reducible apply xs_cons
  repeat' (first | with_reducible apply ph19 | walk_at "m_base" | (with_reducible refine And.intro ?_ ?_))
  rw [show A + far - far = A by omega]
  have e3 : a - A * b = M := by rw [Int.mul_comm]; omega
  with_reducible apply xs_cons
  repeat' (first | with_reducible apply ph13 | with_reducible apply ph14 | with_reducible apply ph15 | with_reducible apply ph19 | walk_at "m_base" | (with_reducible refine And.intro ?_ ?_))
  · exact IntMulOk.of_le ibd h4 (by decide)
  · rw [e3]
    exact IntMulOk.of_le (ib_mono m0 (by omega : M ≤ b) h4) ibu (by decide)
  rw [e3]
  with_reducible apply xs_cons
  repeat' (first | with_reducible apply ph15 | walk_at "m_base" | (with_reducible refine And.intro ?_ ?_))
  · exact IntMulOk.of_le h4 ibu (by decide)
  · exact hk
  all_goals (exfalso; omega)
theorem ok_part (T : TopFn W 23 f fd [nm "upper", nm "lower", nm "cells"]) (G : GlobOk W SS (fnScope (stAt 23)) [(nm "_divmod_pos", .fn 13), (nm "add", .fn 14), (nm "mul", .fn 15), (nm "isub", .fn 19)]) : FnOk W (SS 24) (.ref f) := by
  refine top_ok (S := SS) (N := 20) (n := 10) (on := nm "") T (by decide +kernel) G rfl fun as k h => ?_
  have h' : fPart as k := h
  obtain ⟨a, b, tg1, vs, rfl, h'⟩ := h'
  obtain ⟨h1, h2, h3, h4, ⟨l, rfl, h5⟩, hk⟩ := h'
  exact ⟨rfl, rfl, t_part _ _ l _ _ h1 h2 h3 h4 h5 hk⟩
noncomputable def clI (sc : List Int) (i : Nat) (ρ : Loc) : Prop := ∃ c : List Int, c.length = 7 ∧ ρ = [(nm "script", .list .shr (sc.map .int)), (nm "range", .fn 1), (nm "len", .fn 0), (nm "cells", .list .own (c.map .int))]
theorem ph1 {n : Int} {k : AV → Prop} (h0 : 0 ≤ n) (h1 : n ≤ 2 ^ 20) (h : k (.rng n)) : (SS 1).φ [aI n] k := ⟨_, rfl, h0, h1, h⟩
theorem rng_get {n : Nat} {i : Nat} {v : SV} (h : ((List.range (n : Int).toNat).map fun (j : Nat) => SV.int (j : Int))[i]? = some v) : i < n ∧ v = .int i := by
  rw [Int.toNat_natCast, List.getElem?_map] at h
  have hi : i < n := by
    rcases Nat.lt_or_ge i n with q | q
    · exact q
    · rw [List.getElem?_eq_none (by simpa using q)] at h; cases h
  rw [List.getElem?_range hi] at h
  exact ⟨hi, by simpa using h.symm⟩
theorem t_cells (sc : List Int) (k : AV → Prop) (tg : Tag) (hl : sc.length ≤ 63) (hk : ∀ c : List Int, c.length = 7 → k (.list .tmp (c.map .int))) :
    exs (exE SS 0 true 20 (nm "cells") (fnScope (stAt 19)) 10) (fnBody (stAt 19)) (entry [nm "script"] [.list tg (sc.map .int)] ++ [(nm "range", .fn 1), (nm "len", .fn 0)]) (fun _ => False) (back k) := by
  conv => arg 1; arg 6; whnf
  conv => arg 2; whnf
  conv => arg 3; simp only [entry, argA, List.cons_append, List.nil_append]
  with_reducible apply xs_cons
  repeat' (first | walk_at "m_base" | (with_reducible refine And.intro ?_ ?_))
  · simp
  refine xs_cons (ex_for rfl (by decide +kernel) (fun _ _ => rfl) ?_)
  repeat' (first | with_reducible apply ph1 | with_reducible apply ph0L | walk_at "m_base")
  · simp; omega
  · omega
  · simp; omega
  refine fo_go (clI sc) rfl rfl ?_ ?_ ?_ ?_
  · simp; omega
  · refine ⟨[4, 0, 9, 1, 27, 121, 4], rfl, ?_⟩
    walk_at "m_norm"
  · intro i v ρ' hv hI
    obtain ⟨c, hc, rfl⟩ := hI
    rw [List.length_map] at hv
    obtain ⟨hi, rfl⟩ := rng_get hv
    have f0 : 0 ≤ (i : Int).fmod 7 := Int.fmod_nonneg (by omega) (by decide)
    have f1 : (i : Int).fmod 7 < 7 := Int.fmod_lt_of_pos _ (by decide)
    with_reducible apply xs_cons
    repeat' (first | walk_at "m_base" | (with_reducible refine And.intro ?_ ?_))
    · decide
    · exact f0
    · omega
    · omega
    · omega
    · omega
    · omega
    · decide
    · exact f0
    · simp; omega
    · simp; omega
    · rw [← List.map_set]
      refine ⟨c.set ((i : Int).fmod 7).toNat (c.getD ((i : Int).fmod 7).toNat 0 + sc.getD (i : Int).toNat 0), by rw [List.length_set]; exact hc, ?_⟩
      walk_at "m_norm"
  · intro ρ' hI
    obtain ⟨c, hc, rfl⟩ := hI
    with_reducible apply xs_cons
    repeat' (first | walk_at "m_base" | (with_reducible refine And.intro ?_ ?_))
    exact hk c hc
theorem ok_cells (T : TopFn W 19 f fd [nm "script"]) (G : GlobOk W SS (fnScope (stAt 19)) [(nm "range", .fn 1), (nm "len", .fn 0)]) : FnOk W (SS 20) (.ref f) := by
  refine top_ok (S := SS) (N := 20) (n := 10) (on := nm "cells") T (by decide +kernel) G rfl fun as k h => ?_
  have h' : fCells as k := h
  obtain ⟨tg1, vs, rfl, h'⟩ := h'
  obtain ⟨⟨l, rfl, hl⟩, hk⟩ := h'
  exact ⟨rfl, rfl, t_cells l _ _ hl hk⟩
theorem t_rank (r : List Int) (k : AV → Prop) (tg : Tag) (hl : r.length ≤ 6) (hk : k (aI (rankOf r))) :
    exs (exE SS 0 true 20 (nm "") (fnScope (stAt 21)) 10) (fnBody (stAt 21)) (entry [nm "row"] [.list tg (r.map .int)] ++ [(nm "range", .fn 1), (nm "len", .fn 0)]) (fun _ => False) (back k) := by
  conv => arg 1; arg 6; whnf
  conv => arg 2; whnf
  conv => arg 3; simp only [entry, argA, List.cons_append, List.nil_append]
  with_reducible apply xs_cons
  repeat' (first | walk_at "m_base" | (with_reducible refine And.intro ?_ ?_))
  refine xs_cons (ex_for rfl (by decide +kernel) (fun _ _ => rfl) ?_)
  repeat' (first | with_reducible apply ph1 | with_reducible apply ph0L | walk_at "m_base")
  · omega
  · omega
  refine fo_go (fun i ρ => ρ = [(nm "row", .list .shr (r.map .int)), (nm "range", .fn 1), (nm "len", .fn 0), (nm "rank", aI ((List.range i).foldl (fun s k => 5 * s + rkOf r k) 0))]) rfl rfl ?_ ?_ ?_ ?_
  · simp
  · walk_at "m_norm"
    rfl
  · intro i v ρ' hv hI
    subst hI
    obtain ⟨hi, rfl⟩ := rng_get (n := 6) hv
    have hR : ∀ x, x = rkOf r i → 5 * (List.range i).foldl (fun s k => 5 * s + rkOf r k) 0 + x = (List.range (i + 1)).foldl (fun s k => 5 * s + rkOf r k) 0 := by
      intro x hx
      rw [List.range_succ, List.foldl_append, hx]; rfl
    with_reducible apply xs_cons
    repeat' (first | with_reducible apply ph0L | walk_at "m_base" | (with_reducible refine And.intro ?_ ?_))
    · exact IntMulOk.of_left (by decide +kernel)
    · simp; omega
    · omega
    · rename_i q; rw [List.length_map] at q; exact q
    · omega
    · rename_i q
      rw [List.length_map] at q
      rw [hR _ (by unfold rkOf; rw [if_pos (by omega), Int.toNat_natCast])]
      walk_at "m_norm"
    · rename_i q
      rw [List.length_map] at q
      rw [hR _ (by unfold rkOf; rw [if_neg (by omega)])]
      walk_at "m_norm"
  · intro ρ' hI
    subst hI
    with_reducible apply xs_cons
    repeat' (first | walk_at "m_base" | (with_reducible refine And.intro ?_ ?_))
    exact hk
theorem ints_inj {a b : List Int} (h : a.map SV.int = b.map SV.int) : a = b := by
  exact (List.map_inj_right fun a b h => by cases h; rfl).mp h
theorem ok_rank (T : TopFn W 21 f fd [nm "row"]) (G : GlobOk W SS (fnScope (stAt 21)) [(nm "range", .fn 1), (nm "len", .fn 0)]) : FnOk W (SS 22) (.ref f) := by
  refine top_ok (S := SS) (N := 20) (n := 10) (on := nm "") T (by decide +kernel) G rfl fun as k h => ?_
  have h' : fRank as k := h
  obtain ⟨tg1, vs, rfl, h'⟩ := h'
  obtain ⟨r, rfl, hl, hk⟩ := h'
  exact ⟨rfl, rfl, t_rank r _ _ hl (hk r rfl)⟩
theorem t_row (c : Int) (k : AV → Prop) (hk : k (.list .tmp ((rowOf c).map .int))) :
    exs (exE SS 0 true 20 (nm "") (fnScope (stAt 20)) 10) (fnBody (stAt 20)) (entry [nm "cell"] [aI c] ++ [(nm "range", .fn 1)]) (fun _ => False) (back k) := by
  conv => arg 1; arg 6; whnf
  conv => arg 2; whnf
  conv => arg 3; simp only [entry, argA, List.cons_append, List.nil_append]
  refine xs_cons (ex_ret (ev_comp (fun _ _ => rfl) (by decide +kernel) (fun v => match v with | .int k => .int (c / 4 ^ (k.toNat + 1) % 4) | v => v) ?_))
  repeat' (first | with_reducible apply ph1 | walk_at "m_base")
  · decide
  · exact Int.fmod_nonneg_of_pos _ (by decide)
  · have := Int.fmod_lt_of_pos c (by decide : (0 : Int) < 4); omega
  have hc0 := Int.emod_nonneg c (by decide : (4 : Int) ≠ 0)
  have hc4 := Int.emod_lt_of_pos c (by decide : (0 : Int) < 4)
  rw [fmod_pos (by decide)]
  refine ⟨_, rfl, by simp; omega, fun v hv => ?_, ?_⟩
  · obtain ⟨i, hi, rfl⟩ := List.mem_map.mp hv
    rw [List.mem_range] at hi
    walk_at "m_cr"
    have e : ((i : Int) + 1).toNat = i + 1 := by omega
    have hp : (0 : Int) < 4 ^ (i + 1) := Int.pow_pos (by decide)
    repeat' (first | with_reducible apply xs_cons | walk_at "m_base" | (with_reducible refine And.intro ?_ ?_))
    · omega
    · have : Builtin.Int.intBits 4 = 3 := by decide +kernel
      rw [this]; omega
    · rw [e]; omega
    · decide
    · rw [e, fdiv_pos hp, fmod_pos (by decide), Int.toNat_natCast]
  · rw [List.map_map]
    unfold rowOf at hk
    rw [List.map_map] at hk
    exact hk
theorem ok_row (T : TopFn W 20 f fd [nm "cell"]) (G : GlobOk W SS (fnScope (stAt 20)) [(nm "range", .fn 1)]) : FnOk W (SS 21) (.ref f) := by
  refine top_ok (S := SS) (N := 20) (n := 10) (on := nm "") T (by decide +kernel) G rfl fun as k h => ?_
  have h' : fRow as k := h
  obtain ⟨c, rfl, h'⟩ := h'
  exact ⟨rfl, rfl, t_row _ _ h'⟩
end
end
section
open PySem PySem.W PyProof.Rows PySem.Calls PyProof.V PySem.Spec PySem.SeqAt
section
variable {k : AV → Prop}
theorem sl_from {t : List Nat} {i : Int} (h0 : 0 ≤ i) (h1 : i ≤ t.length) (h2 : t.length ≤ 2 ^ 20) (h : k (aS (t.drop i.toNat))) : sliceE (aS t) (some i) none none k := by
  refine SliceE.str ⟨h0, ?_, ?_, ?_, .inl nofun, ?_⟩
  · simpa [len_mkS] using h1
  · simp
  · simpa [len_mkS] using h2
  · simp only [Option.getD_some, Option.getD_none, cs_mkS, len_mkS]
    rw [List.take_of_length_le (by simp; omega)]
    exact h
theorem sl_to {t : List Nat} {i : Int} (h0 : 0 ≤ i) (h1 : i ≤ t.length) (h2 : t.length ≤ 2 ^ 20) (h : k (aS (t.take i.toNat))) : sliceE (aS t) none (some i) none k := by
  refine SliceE.str ⟨by simp, ?_, ?_, ?_, .inr nofun, ?_⟩
  · simpa using h0
  · simpa [len_mkS] using h1
  · simpa [len_mkS] using h2
  · simp only [Option.getD_some, Option.getD_none, cs_mkS]
    simpa using h
theorem sl_mid {t : List Nat} {i j : Int} (h0 : 0 ≤ i) (hij : i ≤ j) (h1 : j ≤ t.length) (h2 : t.length ≤ 2 ^ 20) (h : k (aS ((t.drop i.toNat).take (j - i).toNat))) : sliceE (aS t) (some i) (some j) none k := by
  refine SliceE.str ⟨h0, ?_, ?_, ?_, .inr nofun, ?_⟩
  · simpa using hij
  · simpa [len_mkS] using h1
  · simpa [len_mkS] using h2
  · simp only [Option.getD_some, cs_mkS]
    exact h
theorem sl_lto {tg : Tag} {vs : List SV} {i : Int} (h0 : 0 ≤ i) (h1 : i ≤ vs.length) (h2 : vs.length ≤ 2 ^ 20) (h : k (.list .tmp (vs.take i.toNat))) : sliceE (.list tg vs) none (some i) none k := SliceE.upto ⟨h0, h1, h2, h⟩
theorem sl_rev {tg : Tag} {vs : List SV} (h2 : vs.length ≤ 2 ^ 20) (h : k (.list .tmp vs.reverse)) : sliceE (.list tg vs) none none (some (-1)) k := SliceE.rev ⟨h2, h⟩
end
theorem str_mk (t : Str) : t = mkS (cs t) := by cases t; rfl
noncomputable def remT : List Nat → List Int → List Nat
  | t, [] => t
  | t, n :: r => remT (t.take (t.length - n.toNat)) r
theorem cut_snoc : ∀ (L : List Int) (t : List Nat) (n : Int), cut t (L ++ [n]) = cut t L ++ [(remT t L).drop ((remT t L).length - n.toNat)]
  | [], t, n => rfl
  | x :: r, t, n => by simp only [List.cons_append, cut, remT, cut_snoc r]
theorem remT_snoc : ∀ (L : List Int) (t : List Nat) (n : Int), remT t (L ++ [n]) = (remT t L).take ((remT t L).length - n.toNat)
  | [], t, n => rfl
  | x :: r, t, n => by simp only [List.cons_append, remT, remT_snoc r]
theorem cut_len : ∀ (L : List Int) (t : List Nat), (cut t L).length = L.length
  | [], t => rfl
  | x :: r, t => by simp [cut, cut_len r]
theorem sum_nonneg {l : List Int} (h : ∀ n ∈ l, 0 ≤ n) : 0 ≤ l.sum := by
  induction l with
  | nil => simp
  | cons a r ih =>
    have := h a List.mem_cons_self
    have := ih fun n hn => h n (List.mem_cons_of_mem _ hn)
    simp only [List.sum_cons]; omega
theorem remT_len : ∀ (L : List Int) (t : List Nat), (∀ n ∈ L, 0 ≤ n) → L.sum ≤ t.length → ((remT t L).length : Int) = t.length - L.sum
  | [], t, _, _ => by simp [remT]
  | x :: r, t, h, hs => by
    have h0 := h x List.mem_cons_self
    have h1 := sum_nonneg fun n hn => h n (List.mem_cons_of_mem _ hn)
    simp only [List.sum_cons] at hs ⊢
    have e : ((t.take (t.length - x.toNat)).length : Int) = t.length - x := by rw [List.length_take]; exact ns_min h0 (by omega)
    rw [remT, remT_len r _ (fun n hn => h n (List.mem_cons_of_mem _ hn)) (by rw [e]; omega), e]
    omega
theorem take_succ_get {L : List Int} {i : Nat} {v : Int} (h : L[i]? = some v) : L.take (i + 1) = L.take i ++ [v] := by
  rw [List.take_succ, h]; rfl
theorem sum_take_le {l : List Int} (h : ∀ n ∈ l, 0 ≤ n) (i : Nat) : (l.take i).sum ≤ l.sum := by
  have e := List.take_append_drop i l
  have : (l.take i ++ l.drop i).sum = l.sum := by rw [e]
  rw [List.sum_append] at this
  have := sum_nonneg fun n hn => h n (List.mem_of_mem_drop (i := i) hn)
  omega
theorem pc_step {t : List Nat} {L : List Int} {M i : Nat} {v : Int} (hv : L[i]? = some v) (hi : i < M) (h0 : ∀ n ∈ L.take M, 0 ≤ n) (hs : (L.take M).sum ≤ (t.length : Int)) :
    0 ≤ v ∧ v ≤ ((remT t (L.take i)).length : Int) ∧ (remT t (L.take i)).length ≤ t.length := by
  have e1 : (L.take M).take (i + 1) = L.take i ++ [v] := by rw [List.take_take, Nat.min_eq_left (by omega), take_succ_get hv]
  have e2 : (L.take M).take i = L.take i := by rw [List.take_take, Nat.min_eq_left (by omega)]
  have h1 : ∀ n ∈ L.take i, 0 ≤ n := fun n hn => h0 n (List.mem_of_mem_take (i := i) (by rw [e2]; exact hn))
  have h2 : 0 ≤ v := h0 v (List.mem_of_mem_take (i := i + 1) (by rw [e1]; simp))
  have h3 := sum_take_le h0 (i + 1)
  rw [e1, List.sum_append] at h3
  simp only [List.sum_cons, List.sum_nil] at h3
  have h5 := sum_nonneg h1
  have h4 := remT_len (L.take i) t h1 (by omega)
  exact ⟨h2, by omega, by omega⟩
section
variable {W : Wd} {f fg : Addr} {fd fdg : FuncData}
set_option maxRecDepth 10000
noncomputable def pcI (t : List Nat) (sizes L : List Int) (many : Int) (i : Nat) (ρ : Loc) : Prop := (i : Int) ≤ many ∧ ρ = [(nm "text", aS (remT t (L.take i))), (nm "sizes", .list .shr (sizes.map .int)), (nm "many", aI many), (nm "len", .fn 0), (nm "pieces", .list .own (strL (cut t (L.take i))))]
theorem e26 : fnBody (stAt 26) = [gg 26 0, gg 26 1, gg 26 2] := rfl
noncomputable def forBody (s : Stmt) : List Stmt := (stPart s).body
noncomputable def forPos (s : Stmt) : Pos := (stPart s).pos
theorem t_pc0 (t : List Nat) (sizes L : List Int) (many : Int) (tg : Tag) (hm : 0 ≤ many) :
    exs (exE SS 0 true 20 (nm "pieces") (fnScope (stAt 26)) 10) [gg 26 0] (entry [nm "text", nm "sizes", nm "many"] [aS t, .list tg (sizes.map .int), aI many] ++ [(nm "len", .fn 0)]) (pcI t sizes L many 0) (fun _ => False) := by
  conv => arg 1; arg 6; whnf
  conv => arg 2; arg 1; whnf
  conv => arg 3; simp only [entry, argA, List.cons_append, List.nil_append]
  with_reducible apply xs_cons
  repeat' (first | walk_at "m_base" | (with_reducible refine And.intro ?_ ?_))
  · simp
  refine ⟨hm, ?_⟩
  rw [List.take_zero]
  walk_at "m_norm"
  rfl
theorem t_pcEnd (t : List Nat) (sizes L : List Int) (many : Int) (i : Nat) (ρ : Loc) (kr : AV → Prop) (h : pcI t sizes L many i ρ) (hk : kr (.list .own (strL (cut t (L.take i))))) :
    exs (exE SS 0 true 20 (nm "pieces") (fnScope (stAt 26)) 10) [gg 26 2] ρ (fun _ => False) kr := by
  conv => arg 1; arg 6; whnf
  conv => arg 2; arg 1; whnf
  obtain ⟨_, rfl⟩ := h
  with_reducible apply xs_cons
  repeat' (first | walk_at "m_base" | (with_reducible refine And.intro ?_ ?_))
  exact hk
theorem t_pcTurn (t : List Nat) (sizes L : List Int) (many v : Int) (i : Nat) (ρ : Loc) (kn : Loc → Prop) (kr : AV → Prop) (h : pcI t sizes L many i ρ) (hv : L[i]? = some v) (hL : L.length ≤ 2 ^ 10) (ht : t.length ≤ 2 ^ 18) (h0 : ∀ n ∈ L.take many.toNat, 0 ≤ n) (hs : (L.take many.toNat).sum ≤ (t.length : Int))
    (hmore : (i : Int) = many → kr (.list .tmp (strL (cut t (L.take i)) ++ [.str (Str.ofString "more")])))
    (hn : (i : Int) < many → ∀ ρ', keepv [nm "text", nm "sizes", nm "many", nm "len", nm "pieces"] ρ' = [(nm "text", aS (remT t (L.take (i + 1)))), (nm "sizes", .list .shr (sizes.map .int)), (nm "many", aI many), (nm "len", .fn 0), (nm "pieces", .list .own (strL (cut t (L.take (i + 1)))))] → kn ρ') :
    exs (exE SS 0 true 20 (nm "pieces") (fnScope (stAt 26)) 10) (forBody (gg 26 1)) ((nm "size", aI v) :: ρ) kn kr := by
  conv => arg 1; arg 6; whnf
  conv => arg 2; whnf
  obtain ⟨hi, rfl⟩ := h
  have hcl : (strL (cut t (L.take i))).length = i := by
    have := (List.getElem?_eq_some_iff.mp hv).1
    simp [strL, cut_len]; omega
  have hiL := (List.getElem?_eq_some_iff.mp hv).1
  with_reducible apply xs_cons
  repeat' (first | with_reducible apply ph0L | walk_at "m_base" | (with_reducible refine And.intro ?_ ?_))
  · omega
  · rename_i q
    rw [hcl] at q
    with_reducible apply xs_cons
    repeat' (first | walk_at "m_base" | (with_reducible refine And.intro ?_ ?_))
    · simp
    · rw [hcl]; simp; omega
    · exact hmore q
  · rename_i q
    rw [hcl] at q
    obtain ⟨v0, v1, v2⟩ := pc_step (t := t) hv (M := many.toNat) (by omega) h0 hs
    have e1 : ((remT t (L.take i)).length - v : Int).toNat = (remT t (L.take i)).length - v.toNat := ns_castv v0
    have e2 := cut_snoc (L.take i) t v
    have e3 := remT_snoc (L.take i) t v
    rw [← take_succ_get hv] at e2 e3
    generalize hX : remT t (L.take i) = X at *
    with_reducible apply xs_cons
    repeat' (first | with_reducible apply ph0S | with_reducible apply sl_from | walk_at "m_base" | (with_reducible refine And.intro ?_ ?_))
    · rw [len_mkS]; omega
    · rw [len_mkS]; omega
    · rw [len_mkS]; omega
    · omega
    · rw [hcl]; omega
    rw [len_mkS, e1]
    with_reducible apply xs_cons
    repeat' (first | with_reducible apply ph0S | with_reducible apply sl_to | walk_at "m_base" | (with_reducible refine And.intro ?_ ?_))
    · rw [len_mkS]; omega
    · rw [len_mkS]; omega
    · rw [len_mkS]; omega
    · omega
    rw [len_mkS, e1]
    refine hn (by omega) _ ?_
    walk_at "m_norm"
    rw [e2, e3]
    simp [strL]
theorem e26_1 : ∃ px p1 p2 cp, gg 26 1 = .For (.Name (nm "size") px) (.Call (.Name (nm "_grouping_intervals") p1) [.Name (nm "sizes") p2] [] cp) (forBody (gg 26 1)) [] (forPos (gg 26 1)) := ⟨_, _, _, _, rfl⟩
theorem ok_pieces (T : TopFn W 26 f fd [nm "text", nm "sizes", nm "many"]) (G : GlobOk W SS (fnScope (stAt 26)) [(nm "len", .fn 0)]) (GF : GenFn W (nm "_grouping_intervals") fg fdg) : FnOk W (SS 27) (.ref f) := by
  refine def_sem (T.defOk (by decide +kernel) G) (R := 0) rfl (ex := []) (exA := []) (fun _ => .nil) (fun s vals _ hl => .of_eq (by rw [T.bind vals (by simpa using hl), List.append_nil])) (fun as k h => ?_) ?_
  · have h' : fPieces as k := h
    obtain ⟨t, tg1, a, many, rfl, h'⟩ := h'
    exact ⟨rfl, rfl⟩
  · intro A env s₀ s E as k Q hR K hes he F hφ hq
    have h' : fPieces as k := hφ
    obtain ⟨t', tg, vs, many, rfl, h'⟩ := h'
    obtain ⟨sizes, fin, L, rfl, hbeh, hsl, hLl, htl, h0, hs, hk⟩ := h'
    rw [T.sc] at hes
    rw [List.append_nil, str_mk t'] at F
    generalize cs t' = t at *
    have hm : 0 ≤ many := by
      rcases hk with ⟨_, h, _⟩ | ⟨_, h, _⟩ <;> omega
    have hmL : many ≤ L.length := by
      rcases hk with ⟨_, h, _⟩ | ⟨_, _, h, _⟩ <;> omega
    have ih := ex_all W SS 0 20 true (nm "pieces") (fnScope (stAt 26)) 10
    rw [e26]
    refine exs_soundA ih hR K hes [gg 26 1, gg 26 2] [gg 26 0] _ _ _ F (t_pc0 t sizes L many tg hm) fun s1 own1 ρ1 F1 k1 => ?_
    obtain ⟨px, p1, p2, cp, e1⟩ := e26_1
    rw [e1]
    obtain ⟨_, rfl⟩ := k1
    refine wpAny_execs_cons (st_forGen (kn := fun ρ' => fin = true ∧ pcI t sizes L many L.length ρ') (kr := back k) ih hR K hes F1 GF (by decide +kernel) (by decide +kernel) (by decide +kernel) (sizes := sizes) (L := L) (fin := fin) (by simp only [look_cons, String.reduceEq, reduceIte]) hbeh (pcI t sizes L many) ?_ (fun i v ρ' hv hJ => ?_) (fun hf ρ' hJ => ⟨hf, hJ⟩) (fun s' own' ρ' F' hkn => ?_) fun v s' own' ρ' a F' ra ka => hq v s' own' ρ' a F' ra ka)
    · refine ⟨hm, ?_⟩
      walk_at "m_norm"
    · have hiL := (List.getElem?_eq_some_iff.mp hv).1
      refine t_pcTurn t sizes L many v i ρ' _ _ hJ hv hLl htl h0 hs (fun q => ?_) (fun q ρ'' hρ => ?_)
      · rcases hk with ⟨_, h, _⟩ | ⟨_, _, h, hk⟩
        · omega
        · have : many.toNat = i := by omega
          rw [this] at hk
          exact hk
      · refine ⟨fun hf => ?_, by omega, ?_⟩
        · rcases hk with ⟨h, _⟩ | ⟨_, _, h, _⟩
          · rw [h] at hf; cases hf
          · omega
        · rw [← hρ]
          congr 1
    · obtain ⟨hf, hJ⟩ := hkn
      rcases hk with ⟨_, h, hk⟩ | ⟨h, _⟩
      · exact exs_sound (kn := fun _ => False) (kr := back k) ih hR K hes hq [gg 26 2] _ _ _ _ F' (t_pcEnd t sizes L many L.length ρ' _ hJ (by rw [List.take_length]; exact hk)) (fun _ _ _ _ q => q.elim) fun _ _ q => q
      · rw [h] at hf; cases hf
end
end
section
open PySem PySem.W PyProof.Rows PySem.Calls PyProof.V PySem.Spec PySem.SeqAt

/-- what the sizes are -/
structure SzOk (T w : Int) (s : Nat) : Prop where
  lo : 2 * T ≤ 2 ^ s * w
  hi : 2 ^ s * w < 4 * T
theorem sz_q {T w : Int} (hw : 0 < w) (hT : 0 < T) : 0 ≤ -1 - (-2 * T) / w ∧ (-1 - (-2 * T) / w) * w < 2 * T ∧ 2 * T ≤ (-1 - (-2 * T) / w + 1) * w := by
  have h1 := Int.mul_ediv_add_emod (-2 * T) w
  have h2 := Int.emod_nonneg (-2 * T) (b := w) (by omega)
  have h3 := Int.emod_lt_of_pos (-2 * T) hw
  have h4 : (-2 * T) / w < 0 := Int.ediv_neg_of_neg_of_pos (by omega) hw
  generalize (-2 * T) / w = q at *
  refine ⟨by omega, ?_, ?_⟩
  · have : (-1 - q) * w = -w - w * q := by rw [Int.sub_mul, Int.mul_comm q w]; omega
    omega
  · have : (-1 - q + 1) * w = - (w * q) := by rw [show -1 - q + 1 = -q by omega, Int.neg_mul, Int.mul_comm q w]
    omega
theorem szOf_ok {T w : Int} (hw : 0 < w) (hwT : w ≤ T) : SzOk T w (szOf T w) := by
  obtain ⟨q0, q1, q2⟩ := sz_q hw (by omega : 0 < T)
  unfold szOf
  have hlt := ib_lt q0
  generalize -1 - (-2 * T) / w = q at *
  refine ⟨?_, ?_⟩
  · have : (q + 1) * w ≤ 2 ^ intBits q * w := Int.mul_le_mul_of_nonneg_right (by omega) (by omega)
    omega
  · rcases Nat.eq_zero_or_pos (intBits q) with h | h
    · rw [h]; omega
    · have h2 : 2 ^ (intBits q - 1) ≤ q := by
        rcases Int.lt_or_le q (2 ^ (intBits q - 1)) with c | c
        · have := (ib_le q0).mpr c; omega
        · exact c
      have h3 : (2 : Int) ^ intBits q = 2 * 2 ^ (intBits q - 1) := by rw [← Int.pow_succ']; congr 1; omega
      rw [h3]
      have : 2 ^ (intBits q - 1) * w ≤ q * w := Int.mul_le_mul_of_nonneg_right h2 (by omega)
      rw [Int.mul_assoc]; omega
theorem sz_le {T w : Int} {s : Nat} (h : SzOk T w s) (hw : 0 < w) (hT : T ≤ 200) : s ≤ 9 := by
  rcases Nat.lt_or_ge 9 s with c | c
  · have h1 : (2 : Int) ^ 10 ≤ 2 ^ s := by rw [← natCast_pow', ← natCast_pow']; exact_mod_cast Nat.pow_le_pow_right (by decide) c
    have h2 : (2 : Int) ^ s * 1 ≤ 2 ^ s * w := Int.mul_le_mul_of_nonneg_left (by omega) (Int.le_of_lt (pow_pos' s))
    have := h.hi
    have e : (2 : Int) ^ 10 = 1024 := rfl
    omega
  · exact c
theorem pt_bd {T ahead w : Int} {s : Nat} (h0 : 0 ≤ ahead) (hw : 0 < w) (h : ahead + w ≤ T) : 0 ≤ ptOf T ahead w s ∧ ptOf T ahead w s < 2 ^ s := by
  have hp := pow_pos' s
  unfold ptOf
  refine ⟨Int.ediv_nonneg (Int.mul_nonneg (by omega) (by omega)) (by omega), ?_⟩
  refine Int.ediv_lt_of_lt_mul (by omega) ?_
  rw [Int.mul_comm (2 ^ s) (2 * T)]
  exact Int.mul_lt_mul_of_pos_right (by omega) hp
theorem ib_top {p : Int} {s : Nat} (h0 : 0 ≤ p) (h1 : p < 2 ^ s) : intBits (p + 2 ^ s) = s + 1 := by
  have hp := pow_pos' s
  refine Nat.le_antisymm ((ib_le (by omega)).mpr (by rw [Int.pow_succ]; omega)) ?_
  rcases Nat.lt_or_ge s (intBits (p + 2 ^ s)) with c | c
  · exact c
  · have := (ib_le (x := p + 2 ^ s) (by omega)).mp c; omega
theorem ceilD_one (b : Nat) : ceilD b 1 = b := by unfold ceilD; rw [Nat.div_one]; omega
theorem bit_top {p : Int} {s j : Nat} (h : j < s) : (p + 2 ^ s) / 2 ^ j % 2 = p / 2 ^ j % 2 := by
  have e : (2 : Int) ^ s = 2 ^ j * (2 * 2 ^ (s - 1 - j)) := by rw [← Int.pow_succ', ← Int.pow_add]; congr 1; omega
  rw [e, Int.add_mul_ediv_left _ _ (by have := pow_pos' j; omega), Int.add_mul_emod_self_left]
theorem dg1_get {x : Int} {m j : Nat} (h : j < m) : (dg 1 x m).getD j 0 = x / 2 ^ j % 2 := by
  simp [dg, List.getD, List.getElem?_map, List.getElem?_range h]
theorem bits01 {p : Int} {s : Nat} {b : Int} (h : b ∈ bitsOf p s) : b = 0 ∨ b = 1 := by
  unfold bitsOf at h
  obtain ⟨k, _, rfl⟩ := List.mem_map.mp h
  omega
theorem bits_len (p : Int) (s : Nat) : (bitsOf p s).length = s := by simp [bitsOf]
theorem word_len (z o : Nat) (T a w : Int) : (wordOf z o T a w).length = szOf T w := by simp [wordOf, bits_len]
theorem wf_get (z o : Nat) (T : Int) : ∀ (ws : List Int) (a : Int) (i : Nat) (w : Int), ws[i]? = some w → (wordsFrom z o T a ws)[i]? = some (wordOf z o T (a + (ws.take i).sum) w)
  | [], _, _, _, h => by simp at h
  | x :: r, a, 0, w, h => by
    simp at h; subst h
    simp [wordsFrom]
  | x :: r, a, i + 1, w, h => by
    simp only [List.getElem?_cons_succ] at h
    simp only [wordsFrom, List.getElem?_cons_succ, List.take_succ_cons, List.sum_cons]
    rw [wf_get z o T r (a + x) i w h, Int.add_assoc]
theorem wf_len (z o : Nat) (T : Int) : ∀ (ws : List Int) (a : Int), (wordsFrom z o T a ws).length = ws.length
  | [], _ => rfl
  | x :: r, a => by simp [wordsFrom, wf_len z o T r]
theorem WtOk.sum {ws : List Int} (h : WtOk ws) : 4 ≤ ws.sum ∧ ws.sum ≤ 200 := by
  obtain ⟨hl, hb⟩ := h
  obtain ⟨a, r1, rfl, l1⟩ := len_cons hl
  obtain ⟨b, r2, rfl, l2⟩ := len_cons l1
  obtain ⟨c, r3, rfl, l3⟩ := len_cons l2
  obtain ⟨d, r4, rfl, l4⟩ := len_cons l3
  cases len_nil l4
  have h1 := hb a (by simp)
  have h2 := hb b (by simp)
  have h3 := hb c (by simp)
  have h4 := hb d (by simp)
  simp only [List.sum_cons, List.sum_nil]
  clear hb hl l1 l2 l3 l4
  omega
theorem WtOk.pre {ws : List Int} (h : WtOk ws) {i : Nat} {w : Int} (hw : ws[i]? = some w) : 0 ≤ (ws.take i).sum ∧ 1 ≤ w ∧ w ≤ 50 ∧ (ws.take i).sum + w ≤ ws.sum := by
  have h1 := h.bd w (List.mem_of_getElem? hw)
  have h2 := sum_nonneg (l := ws.take i) fun n hn => by have := h.bd n (List.mem_of_mem_take hn); omega
  have h3 := sum_take_le (l := ws) (fun n hn => by have := h.bd n hn; omega) (i + 1)
  rw [take_succ_get hw, List.sum_append] at h3
  simp only [List.sum_cons, List.sum_nil] at h3
  exact ⟨h2, h1.1, h1.2, by omega⟩
end
section
open PySem PySem.W PyProof.Rows PySem.Calls PyProof.V PySem.Spec PySem.SeqAt
theorem ph3 {l : List Int} {tg : Tag} {k : AV → Prop} (h : k (aI l.sum)) : (SS 3).φ [.list tg (l.map .int)] k := ⟨_, _, rfl, l, intsOf_map l, h⟩
theorem ph11o {a : Int} {k : AV → Prop} (ha : 0 ≤ a) (hb : intBits a ≤ 20000) (hk : k (.list .tmp ((dg 1 a (intBits a)).map .int))) : (SS 11).φ [aI a, aI 1] k := by
  refine ph11 (n := 1) ha (by decide) hb (by decide) ?_
  rw [ceilD_one]; exact hk
theorem ph17 {tg : Tag} {vs : List SV} {k : AV → Prop} (h0 : vs.length ≤ 2 ^ 20) (h : k (aI (vs.length : Int))) : (SS 17).φ [.list tg vs] k := ⟨_, _, rfl, h0, h⟩
theorem ph18 {a b : Int} {k : AV → Prop} (h0 : b ≠ 0) (h : k (aI (a.fdiv b))) : (SS 18).φ [aI a, aI b] k := ⟨_, _, rfl, h0, h⟩
theorem ph24 {a b : Int} {cl : List Int} {tg : Tag} {k : AV → Prop} (h1 : 0 ≤ a) (h2 : 0 < b) (h3 : intBits a ≤ 1000) (h4 : intBits b ≤ 1000) (h5 : cl.length = 7) (h : k (aI (a / b))) : (SS 24).φ [aI a, aI b, .list tg (cl.map .int)] k := ⟨_, _, _, _, rfl, h1, h2, h3, h4, ⟨cl, rfl, h5⟩, h⟩
theorem su_strL {t : Tag} {l : List (List Nat)} {i : Int} {k : AV → Prop} (h0 : 0 ≤ i) (h1 : i < l.length) (h2 : l.length ≤ 2 ^ 20) (h : k (aS (l.getD i.toNat []))) : subE (.list t (strL l)) (aI i) k := su_str h0 h1 h2 h
section
variable {W : Wd} {f : Addr} {fd : FuncData}
set_option maxRecDepth 10000
noncomputable def wdρ (ws cl : List Int) (z o : Nat) (T ahead : Int) (words : List (List Nat)) : Loc := [(nm "weights", .list .shr (ws.map .int)), (nm "signs", aS [z, o]), (nm "cells", .list .shr (cl.map .int)), (nm "sum", .fn 3), (nm "_int2digits", .fn 11), (nm "_divmod_pos", .fn 13), (nm "length_hint", .fn 17), (nm "isub", .fn 19), (nm "ifloordiv", .fn 18), (nm "_law_part", .fn 24), (nm "add", .fn 14), (nm "range", .fn 1),
  (nm "total", aI T), (nm "ahead", aI ahead), (nm "words", .list .own (strL words))]
theorem t_words (ws cl : List Int) (z o : Nat) (k : AV → Prop) (t1 t3 : Tag) (hw : WtOk ws) (hcl : cl.length = 7) (hk : k (.list .tmp (strL (wordsOf z o ws)))) :
    exs (exE SS 20 true 20 (nm "words") (fnScope (stAt 24)) 10) (fnBody (stAt 24)) (entry [nm "weights", nm "signs", nm "cells"] [.list t1 (ws.map .int), aS [z, o], .list t3 (cl.map .int)] ++
      [(nm "sum", .fn 3), (nm "_int2digits", .fn 11), (nm "_divmod_pos", .fn 13), (nm "length_hint", .fn 17), (nm "isub", .fn 19), (nm "ifloordiv", .fn 18), (nm "_law_part", .fn 24), (nm "add", .fn 14), (nm "range", .fn 1)]) (fun _ => False) (back k) := by
  obtain ⟨hT0, hT1⟩ := hw.sum
  have hwl := hw.len
  conv => arg 1; arg 6; whnf
  conv => arg 2; whnf
  conv => arg 3; simp only [entry, argA, List.cons_append, List.nil_append]
  with_reducible apply xs_cons
  repeat' (first | with_reducible apply ph3 | walk_at "m_base" | (with_reducible refine And.intro ?_ ?_))
  · decide
  · simp
  generalize hT : ws.sum = T at *
  have ibT : intBits T ≤ 8 := ib_small (by omega) (by have : (2 : Int) ^ 8 = 256 := rfl
                                                      omega)
  have ib0 : intBits 0 = 0 := by decide +kernel
  with_reducible apply xs_cons
  repeat' (first | with_reducible apply ph11o | with_reducible apply ph13 | walk_at "m_base" | (with_reducible refine And.intro ?_ ?_))
  · decide
  · rw [ib0]; decide
  · simp
  · rw [ib0]; decide
  · simp
  · rename_i q; rw [ib0] at q; exact absurd rfl q
  · decide
  · omega
  · rw [ib0]; decide
  · omega
  · simp
  · rename_i q; exact absurd ⟨Int.zero_ediv T, Int.zero_emod T⟩ q
  refine xs_cons (ex_for rfl (by decide +kernel) (fun _ _ => rfl) ?_)
  repeat' (first | walk_at "m_base")
  refine fo_go (fun i ρ => ρ = wdρ ws cl z o T (ws.take i).sum ((wordsOf z o ws).take i)) rfl rfl ?_ ?_ ?_ ?_
  · simp; omega
  · unfold wdρ
    walk_at "m_norm"
    rfl
  · intro i v ρ' hv hI
    subst hI
    rw [List.getElem?_map] at hv
    obtain ⟨w, hwi, rfl⟩ := Option.map_eq_some_iff.mp hv
    obtain ⟨p0, p1, p2, p3⟩ := hw.pre hwi
    rw [hT] at p3
    have hwf := wf_get z o T ws 0 i w hwi
    have hstep : (wordsOf z o ws).take (i + 1) = (wordsOf z o ws).take i ++ [wordOf z o T (ws.take i).sum w] := by
      have : (wordsOf z o ws)[i]? = some (wordOf z o T (ws.take i).sum w) := by
        unfold wordsOf; rw [hT, hwf, Int.zero_add]
      rw [List.take_succ, this]; rfl
    have hsum : (ws.take (i + 1)).sum = (ws.take i).sum + w := by rw [take_succ_get hwi, List.sum_append]; simp
    have hi4 : i < 4 := by have := (List.getElem?_eq_some_iff.mp hwi).1; omega
    have hwl2 : ((wordsOf z o ws).take i).length ≤ 4 := by rw [List.length_take]; omega
    rw [hstep, hsum]
    unfold wordOf
    generalize (ws.take i).sum = A at *
    generalize (wordsOf z o ws).take i = pre at *
    unfold wdρ
    obtain ⟨q0, q1, q2⟩ := sz_q (T := T) (w := w) (by omega) (by omega)
    have hsz := szOf_ok (T := T) (w := w) (by omega) (by omega)
    have hs9 := sz_le hsz (by omega) hT1
    have hszd : szOf T w = intBits (-1 - (-2 * T) / w) := rfl
    have hqb : intBits (-1 - (-2 * T) / w) ≤ 9 := by rw [← hszd]; exact hs9
    with_reducible apply xs_cons
    repeat' (first | with_reducible apply ph17 | with_reducible apply ph11o | with_reducible apply ph18 | with_reducible apply ph19 | walk_at "m_base" | (with_reducible refine And.intro ?_ ?_))
    · exact IntMulOk.of_left (by decide +kernel)
    · omega
    all_goals (try rw [fdiv_pos (by omega : (0 : Int) < w)])
    · exact q0
    · omega
    · rw [List.length_map, dg_len]; omega
    rw [List.length_map, dg_len, ← hszd]
    generalize szOf T w = s at *
    have hpt := pt_bd (T := T) (ahead := A) (w := w) (s := s) p0 (by omega) p3
    have e2 : ((2 * A + w) * 2 ^ (s : Int).toNat) / (2 * T) = ptOf T A w s := by rw [Int.toNat_natCast]; rfl
    have hps := pow_pos' s
    have hps9 : (2 : Int) ^ s ≤ 512 := by
      have : (2 : Int) ^ s ≤ 2 ^ 9 := by rw [← natCast_pow', ← natCast_pow']; exact_mod_cast Nat.pow_le_pow_right (by decide) hs9
      exact this
    have ibA : intBits (2 * A + w) ≤ 9 := ib_small (by omega) (by have : (2 : Int) ^ 9 = 512 := rfl
                                                                  omega)
    have ibP := ib_pow s
    have ibw : intBits w ≤ 8 := ib_small (by omega) (by have : (2 : Int) ^ 8 = 256 := rfl
                                                        omega)
    have ib2 : Builtin.Int.intBits 2 = 2 := by decide +kernel
    have hpow : (Builtin.Int.intBits 2 : Int) * s ≤ 2 ^ 27 := by rw [ib2]; omega
    with_reducible apply xs_cons
    repeat' (first | with_reducible apply ph24 | walk_at "m_base" | (with_reducible refine And.intro ?_ ?_))
    all_goals (try rw [Int.toNat_natCast])
    · exact IntMulOk.of_left (by decide +kernel)
    · omega
    · exact hpow
    · exact IntMulOk.of_le ibA ibP (by omega)
    · exact IntMulOk.of_left (by decide +kernel)
    · exact Int.mul_nonneg (by omega) (by omega)
    · omega
    · exact Nat.le_trans (ib_mul ibA ibP) (by omega)
    · exact Nat.le_trans (ib_mul (m := 2) (by decide +kernel) ibT) (by omega)
    · exact hcl
    rw [show (2 * A + w) * 2 ^ s / (2 * T) = ptOf T A w s from rfl]
    generalize ptOf T A w s = p at *
    with_reducible apply xs_cons
    repeat' (first | walk_at "m_base" | (with_reducible refine And.intro ?_ ?_))
    · rename_i q; omega
    · exact IntMulOk.of_left (by decide +kernel)
    · omega
    · exact hpow
    · rw [Int.toNat_natCast]; exact IntMulOk.of_le ibP ibw (by omega)
    · exact IntMulOk.of_left (by decide +kernel)
    rotate_left
    · rename_i q; rw [Int.toNat_natCast] at q; exact absurd hsz.hi q
    · rename_i q; rw [Int.toNat_natCast] at q; exact absurd hsz.lo q
    have hib := ib_top hpt.1 hpt.2
    with_reducible apply xs_cons
    repeat' (first | with_reducible apply ph14 | with_reducible apply ph11o | walk_at "m_base" | (with_reducible refine And.intro ?_ ?_))
    all_goals (try rw [Int.toNat_natCast])
    · omega
    · exact hpow
    · omega
    · rw [hib]; omega
    rw [hib]
    refine xs_cons ?_
    repeat' (first | walk_at "m_base")
    refine ev_comp (fun _ _ => rfl) (by decide +kernel) (fun v => match v with | .int k => .str (mkS [chOf z o (p / 2 ^ (s - 1 - k.toNat) % 2)]) | v => v) ?_
    repeat' (first | with_reducible apply ph1 | walk_at "m_base")
    · omega
    · omega
    refine ⟨_, rfl, by simp; omega, fun v hv => ?_, ?_⟩
    · obtain ⟨j, hj, rfl⟩ := List.mem_map.mp hv
      rw [List.mem_range, Int.toNat_natCast] at hj
      walk_at "m_norm"
      walk_at "m_cr"
      have ej : ((s : Int) - 1 - j).toNat = s - 1 - j := ns_cast
      have eb : (dg 1 (p + 2 ^ s) (s + 1)).getD (s - 1 - j) 0 = p / 2 ^ (s - 1 - j) % 2 := by
        rw [dg1_get (by omega), bit_top (by omega)]
      have hb0 := Int.emod_nonneg (p / 2 ^ (s - 1 - j)) (by decide : (2 : Int) ≠ 0)
      have hb1 := Int.emod_lt_of_pos (p / 2 ^ (s - 1 - j)) (by decide : (0 : Int) < 2)
      repeat' (first | with_reducible apply xs_cons | walk_at "m_base" | (with_reducible refine And.intro ?_ ?_))
      · omega
      · rw [dg_len]; omega
      · rw [dg_len]; omega
      all_goals (try rw [ej, eb])
      · exact hb0
      · simp; omega
      · simp
      · rw [Int.toNat_natCast]
        generalize p / 2 ^ (s - 1 - j) % 2 = b at *
        unfold chOf
        rcases (show b = 0 ∨ b = 1 by omega) with rfl | rfl <;> rfl
    · rw [Int.toNat_natCast]
      have e5 : ((List.range s).map fun (i : Nat) => SV.int (i : Int)).map (fun v => match v with | .int k => SV.str (mkS [chOf z o (p / 2 ^ (s - 1 - k.toNat) % 2)]) | v => v) = ((bitsOf p s).map fun b => [chOf z o b]).map fun w => SV.str (mkS w) := by
        simp [bitsOf, List.map_map, Function.comp_def]
      rw [e5]
      have e6 : ((bitsOf p s).map fun b => [chOf z o b]).flatten = (bitsOf p s).map (chOf z o) := by
        generalize bitsOf p s = l
        induction l with
        | nil => rfl
        | cons a r ih => simp [ih]
      refine jo_map (by decide +kernel) (by rw [e6]; simp [bits_len]; omega) (by simp [bits_len]; omega) ?_
      rw [e6]
      refine sk_sc ⟨by simp [strL]; omega, ?_⟩
      with_reducible apply xs_cons
      repeat' (first | walk_at "m_base" | (with_reducible refine And.intro ?_ ?_))
      walk_at "m_norm"
      simp [strL]
  · intro ρ' hI
    subst hI
    unfold wdρ
    with_reducible apply xs_cons
    repeat' (first | walk_at "m_base" | (with_reducible refine And.intro ?_ ?_))
    rw [List.length_map, List.take_of_length_le (by unfold wordsOf; rw [wf_len]; exact Nat.le_refl _)]
    exact hk
theorem ok_words (T : TopFn W 24 f fd [nm "weights", nm "signs", nm "cells"]) (G : GlobOk W SS (fnScope (stAt 24)) [(nm "sum", .fn 3), (nm "_int2digits", .fn 11), (nm "_divmod_pos", .fn 13), (nm "length_hint", .fn 17), (nm "isub", .fn 19), (nm "ifloordiv", .fn 18), (nm "_law_part", .fn 24), (nm "add", .fn 14), (nm "range", .fn 1)]) : FnOk W (SS 25) (.ref f) := by
  refine top_ok (S := SS) (N := 20) (n := 10) (on := nm "words") T (by decide +kernel) G rfl fun as k h => ?_
  have h' : fWords as k := h
  obtain ⟨tg1, a, b, tg2, c, rfl, h'⟩ := h'
  obtain ⟨ws, z, o, cl, rfl, rfl, rfl, hw, hcl, hk⟩ := h'
  exact ⟨rfl, rfl, t_words ws cl z o _ _ _ hw hcl hk⟩
end
end
section
open PySem PySem.W PyProof.Rows PySem.Calls PyProof.V PySem.Spec PySem.SeqAt

/-- the number of a row of bits, the highest first -/
noncomputable def vB : List Int → Int
  | [] => 0
  | b :: r => b * 2 ^ r.length + vB r
noncomputable def Bits (l : List Int) : Prop := ∀ b ∈ l, b = 0 ∨ b = 1
theorem bits_Bits (p : Int) (s : Nat) : Bits (bitsOf p s) := fun b hb => bits01 hb
theorem vB_bd : ∀ {l : List Int}, Bits l → 0 ≤ vB l ∧ vB l < 2 ^ l.length
  | [], _ => by simp [vB]
  | b :: r, h => by
    obtain ⟨h1, h2⟩ := vB_bd (l := r) fun x hx => h x (List.mem_cons_of_mem _ hx)
    have hp := pow_pos' r.length
    simp only [vB, List.length_cons, Int.pow_succ]
    rcases h b List.mem_cons_self with rfl | rfl <;> omega
theorem vB_append : ∀ a b : List Int, vB (a ++ b) = vB a * 2 ^ b.length + vB b
  | [], b => by simp [vB]
  | x :: r, b => by
    simp only [List.cons_append, vB, vB_append r b, List.length_append]
    rw [Int.pow_add, Int.add_mul, ← Int.mul_assoc]; omega
theorem bitsOf_succ (p : Int) (s : Nat) : bitsOf p (s + 1) = (p / 2 ^ s % 2) :: bitsOf p s := by
  unfold bitsOf
  rw [List.range_succ_eq_map, List.map_cons, List.map_map]
  congr 1
  apply List.map_congr_left
  intro k hk
  simp only [Function.comp_def]
  congr 3
  rw [Nat.add_sub_cancel, Nat.sub_sub, Nat.add_comm 1 k]
theorem vB_bits : ∀ (s : Nat) (p : Int), vB (bitsOf p s) = p % 2 ^ s
  | 0, p => by simp [bitsOf, vB, Int.emod_one]
  | s + 1, p => by
    rw [bitsOf_succ, vB, bits_len, vB_bits s p]
    have hp := pow_pos' s
    have h1 := Int.mul_ediv_add_emod p (2 ^ s)
    have h2 := Int.mul_ediv_add_emod (p / 2 ^ s) 2
    have h3 := Int.mul_ediv_add_emod p (2 ^ (s + 1))
    have e3 : p / 2 ^ (s + 1) = p / 2 ^ s / 2 := by rw [Int.pow_succ, ediv_ediv' (by omega)]
    rw [e3, Int.pow_succ] at h3
    rw [Int.pow_succ]
    generalize p / 2 ^ s = y at *
    generalize (2 : Int) ^ s = P at *
    have : P * y = P * (2 * (y / 2) + y % 2) := by rw [h2]
    rw [Int.mul_add, ← Int.mul_assoc] at this
    rw [Int.mul_comm (y % 2) P]
    omega
theorem vB_word {p : Int} {s : Nat} (h0 : 0 ≤ p) (h1 : p < 2 ^ s) : vB (bitsOf p s) = p := by rw [vB_bits, Int.emod_eq_of_lt h0 h1]

/-- ahead at the first difference -/
noncomputable def Dif (u v : List Int) : Prop := ∃ c u' v', u = c ++ 0 :: u' ∧ v = c ++ 1 :: v'
theorem dif_of : ∀ {u v : List Int}, Bits u → Bits v → (vB u + 1) * 2 ^ v.length ≤ vB v * 2 ^ u.length → Dif u v
  | [], v, _, hv, h => by
    have := (vB_bd hv).2
    simp [vB] at h
    omega
  | b :: u, [], hu, _, h => by
    have := (vB_bd hu).1
    simp [vB] at h this
    omega
  | b :: u, c :: v, hu, hv, h => by
    have hu' : Bits u := fun x hx => hu x (List.mem_cons_of_mem _ hx)
    have hv' : Bits v := fun x hx => hv x (List.mem_cons_of_mem _ hx)
    obtain ⟨u0, u1⟩ := vB_bd hu'
    obtain ⟨v0, v1⟩ := vB_bd hv'
    have hp := pow_pos' u.length
    have hq := pow_pos' v.length
    simp only [vB, List.length_cons, Int.pow_succ] at h
    have hPQ : 0 < (2 : Int) ^ u.length * 2 ^ v.length := Int.mul_pos hp hq
    have same : (vB u + 1) * 2 ^ v.length ≤ vB v * 2 ^ u.length → b = c → Dif (b :: u) (c :: v) := fun k e => by
      obtain ⟨w, u', v', e1, e2⟩ := dif_of hu' hv' k
      exact ⟨b :: w, u', v', by rw [e1]; rfl, by rw [e2, e]; rfl⟩
    generalize (2 : Int) ^ u.length = P at *
    generalize (2 : Int) ^ v.length = Q at *
    rcases hu b List.mem_cons_self with rfl | rfl <;> rcases hv c List.mem_cons_self with rfl | rfl
    · refine same ?_ rfl
      rw [Int.zero_mul, Int.zero_mul, Int.zero_add, Int.zero_add, ← Int.mul_assoc, ← Int.mul_assoc] at h
      omega
    · exact ⟨[], u, v, rfl, rfl⟩
    · exfalso
      have h3 : vB v * (P * 2) ≤ Q * (P * 2) := Int.mul_le_mul_of_nonneg_right (by omega) (by omega)
      have h4 : 0 ≤ vB u * (Q * 2) := Int.mul_nonneg u0 (by omega)
      have e1 : (1 * P + vB u + 1) * (Q * 2) = P * Q * 2 + vB u * (Q * 2) + Q * 2 := by
        rw [Int.one_mul, Int.add_mul, Int.add_mul, ← Int.mul_assoc P]; omega
      have e2 : Q * (P * 2) = P * Q * 2 := by rw [← Int.mul_assoc, Int.mul_comm Q P]
      rw [Int.zero_mul, Int.zero_add, e1] at h
      omega
    · refine same ?_ rfl
      have e1 : (1 * P + vB u + 1) * (Q * 2) = P * Q * 2 + (vB u + 1) * Q * 2 := by
        rw [Int.one_mul, Int.add_assoc, Int.add_mul, ← Int.mul_assoc P, ← Int.mul_assoc (vB u + 1)]
      have e2 : (1 * Q + vB v) * (P * 2) = P * Q * 2 + vB v * P * 2 := by
        rw [Int.one_mul, Int.add_mul, ← Int.mul_assoc Q, ← Int.mul_assoc (vB v), Int.mul_comm Q P]
      rw [e1, e2] at h
      omega
/-- one text ahead of the other at the first difference -/
noncomputable def DifT (u v : List Nat) : Prop := ∃ c x y u' v', u = c ++ x :: u' ∧ v = c ++ y :: v' ∧ x < y
theorem DifT.lt {u v : List Nat} (h : DifT u v) : ltS u v = true ∧ ltS v u = false := by
  obtain ⟨c, x, y, u', v', rfl, rfl, hxy⟩ := h
  induction c with
  | nil =>
    simp only [List.nil_append, ltS]
    have : ¬ y < x := by omega
    have h2 : ¬ y = x := by omega
    simp [hxy, this, h2]
  | cons a r ih =>
    simp only [List.cons_append, ltS, Nat.lt_irrefl, decide_false, decide_true, Bool.false_or, Bool.true_and]
    exact ih
theorem DifT.left {u v : List Nat} (h : DifT u v) (z : List Nat) : DifT (u ++ z) v := by
  obtain ⟨c, x, y, u', v', rfl, rfl, hxy⟩ := h
  exact ⟨c, x, y, u' ++ z, v', by simp, rfl, hxy⟩
theorem DifT.right {u v : List Nat} (h : DifT u v) (z : List Nat) : DifT u (v ++ z) := by
  obtain ⟨c, x, y, u', v', rfl, rfl, hxy⟩ := h
  exact ⟨c, x, y, u', v' ++ z, rfl, by simp, hxy⟩
theorem DifT.pre {u v : List Nat} (h : DifT u v) (z : List Nat) : DifT (z ++ u) (z ++ v) := by
  obtain ⟨c, x, y, u', v', rfl, rfl, hxy⟩ := h
  exact ⟨z ++ c, x, y, u', v', by simp, by simp, hxy⟩
theorem Dif.text {u v : List Int} (h : Dif u v) {z o : Nat} (hzo : z < o) : DifT (u.map (chOf z o)) (v.map (chOf z o)) := by
  obtain ⟨c, u', v', rfl, rfl⟩ := h
  exact ⟨c.map (chOf z o), z, o, u'.map (chOf z o), v'.map (chOf z o), by simp [chOf], by simp [chOf], hzo⟩
theorem ltS_pre {u v : List Nat} (h : v ≠ []) : ltS u (u ++ v) = true ∧ ltS (u ++ v) u = false := by
  induction u with
  | nil =>
    cases v with
    | nil => exact absurd rfl h
    | cons a r => exact ⟨rfl, rfl⟩
  | cons a r ih => simpa [ltS] using ih
theorem ltS_irrefl (u : List Nat) : ltS u u = false := by
  induction u with
  | nil => rfl
  | cons a r ih => simpa [ltS] using ih
end
section
open PySem PySem.W PyProof.Rows PySem.Calls PyProof.V PySem.Spec PySem.SeqAt

noncomputable def aOf (ws : List Int) (i : Nat) : Int := (ws.take i).sum
noncomputable def sOf (ws : List Int) (i : Nat) : Nat := szOf ws.sum (ws.getD i 0)
noncomputable def pOf (ws : List Int) (i : Nat) : Int := ptOf ws.sum (aOf ws i) (ws.getD i 0) (sOf ws i)
noncomputable def bOf (ws : List Int) (i : Nat) : List Int := bitsOf (pOf ws i) (sOf ws i)
section
variable {ws : List Int} {z o : Nat}
theorem wt_get (h : WtOk ws) {i : Nat} (hi : i < 4) : ws[i]? = some (ws.getD i 0) := by
  have : i < ws.length := by rw [h.len]; exact hi
  simp [List.getD, List.getElem?_eq_getElem this]
theorem word_get (h : WtOk ws) {i : Nat} (hi : i < 4) : (wordsOf z o ws).getD i [] = (bOf ws i).map (chOf z o) := by
  have := wf_get z o ws.sum ws 0 i _ (wt_get h hi)
  unfold wordsOf
  rw [List.getD, this, Int.zero_add]
  rfl
theorem a_succ (h : WtOk ws) {i : Nat} (hi : i < 4) : aOf ws (i + 1) = aOf ws i + ws.getD i 0 := by
  unfold aOf
  rw [take_succ_get (wt_get h hi), List.sum_append]; simp
theorem a_mono (h : WtOk ws) {i j : Nat} (hij : i ≤ j) : aOf ws i ≤ aOf ws j := by
  unfold aOf
  have := sum_take_le (l := ws.take j) (fun n hn => by have := h.bd n (List.mem_of_mem_take hn); omega) i
  rw [List.take_take, Nat.min_eq_left hij] at this
  exact this
theorem a_four (h : WtOk ws) : aOf ws 4 = ws.sum := by
  unfold aOf; rw [List.take_of_length_le (by rw [h.len]; exact Nat.le_refl _)]
theorem wt_facts (h : WtOk ws) {i : Nat} (hi : i < 4) : 0 ≤ aOf ws i ∧ 1 ≤ ws.getD i 0 ∧ ws.getD i 0 ≤ 50 ∧ aOf ws i + ws.getD i 0 ≤ ws.sum := h.pre (wt_get h hi)
theorem s_ok (h : WtOk ws) {i : Nat} (hi : i < 4) : SzOk ws.sum (ws.getD i 0) (sOf ws i) ∧ 1 ≤ sOf ws i ∧ sOf ws i ≤ 9 := by
  obtain ⟨h0, h1, h2, h3⟩ := wt_facts h hi
  have hs := h.sum
  have k := szOf_ok (T := ws.sum) (w := ws.getD i 0) (by omega) (by omega)
  refine ⟨k, ?_, sz_le k (by omega) hs.2⟩
  rcases Nat.eq_zero_or_pos (sOf ws i) with q | q
  · have := k.lo
    rw [show szOf ws.sum (ws.getD i 0) = 0 from q] at this
    omega
  · exact q
theorem p_bd (h : WtOk ws) {i : Nat} (hi : i < 4) : 0 ≤ pOf ws i ∧ pOf ws i < 2 ^ sOf ws i := by
  obtain ⟨h0, h1, h2, h3⟩ := wt_facts h hi
  exact pt_bd h0 (by omega) h3
theorem b_val (h : WtOk ws) {i : Nat} (hi : i < 4) : vB (bOf ws i) = pOf ws i := vB_word (p_bd h hi).1 (p_bd h hi).2
theorem b_len (i : Nat) : (bOf ws i).length = sOf ws i := bits_len _ _
theorem b_bits (i : Nat) : Bits (bOf ws i) := bits_Bits _ _
/-- a word's stretch lies in its letter's -/
theorem p_in (h : WtOk ws) {i : Nat} (hi : i < 4) : aOf ws i * 2 ^ sOf ws i < ws.sum * pOf ws i ∧ ws.sum * (pOf ws i + 1) ≤ (aOf ws i + ws.getD i 0) * 2 ^ sOf ws i := by
  obtain ⟨h0, h1, h2, h3⟩ := wt_facts h hi
  obtain ⟨k, _, _⟩ := s_ok h hi
  have hs := h.sum
  have hlo := k.lo
  have e : pOf ws i = (2 * aOf ws i + ws.getD i 0) * 2 ^ sOf ws i / (2 * ws.sum) := rfl
  have m1 := Int.mul_ediv_add_emod ((2 * aOf ws i + ws.getD i 0) * 2 ^ sOf ws i) (2 * ws.sum)
  have m2 := Int.emod_nonneg ((2 * aOf ws i + ws.getD i 0) * 2 ^ sOf ws i) (b := 2 * ws.sum) (by omega)
  have m3 := Int.emod_lt_of_pos ((2 * aOf ws i + ws.getD i 0) * 2 ^ sOf ws i) (b := 2 * ws.sum) (by omega)
  rw [← e] at m1
  generalize pOf ws i = p at *
  generalize (2 * aOf ws i + ws.getD i 0) * 2 ^ sOf ws i % (2 * ws.sum) = m at *
  rw [Int.add_mul, Int.mul_assoc] at m1
  rw [Int.mul_assoc] at m1
  rw [Int.add_mul, Int.mul_add, Int.mul_comm (ws.getD i 0)]
  rw [Int.mul_comm (ws.getD i 0)] at m1
  generalize aOf ws i * 2 ^ sOf ws i = X at *
  generalize ws.sum * p = Y at *
  generalize 2 ^ sOf ws i * ws.getD i 0 = Z at *
  omega
theorem dif_words (h : WtOk ws) {i j : Nat} (hij : i < j) (hj : j < 4) : Dif (bOf ws i) (bOf ws j) := by
  have hi : i < 4 := by omega
  refine dif_of (b_bits i) (b_bits j) ?_
  rw [b_val h hi, b_val h hj, b_len, b_len]
  obtain ⟨_, a1⟩ := p_in h hi
  obtain ⟨a2, _⟩ := p_in h hj
  have a3 : aOf ws i + ws.getD i 0 ≤ aOf ws j := by rw [← a_succ h hi]; exact a_mono h hij
  have hs := h.sum
  have hp := pow_pos' (sOf ws i)
  have hq := pow_pos' (sOf ws j)
  generalize (2 : Int) ^ sOf ws i = P at *
  generalize (2 : Int) ^ sOf ws j = Q at *
  have b1 : ws.sum * (pOf ws i + 1) * Q ≤ (aOf ws i + ws.getD i 0) * P * Q := Int.mul_le_mul_of_nonneg_right a1 (by omega)
  have b2 : (aOf ws i + ws.getD i 0) * (P * Q) ≤ aOf ws j * (P * Q) := Int.mul_le_mul_of_nonneg_right a3 (Int.le_of_lt (Int.mul_pos hp hq))
  have b3 : aOf ws j * Q * P ≤ ws.sum * pOf ws j * P := Int.mul_le_mul_of_nonneg_right (by omega) (by omega)
  refine Int.le_of_mul_le_mul_left (a := ws.sum) ?_ (by omega)
  rw [← Int.mul_assoc, ← Int.mul_assoc]
  rw [Int.mul_assoc (aOf ws i + ws.getD i 0)] at b1
  have e : aOf ws j * Q * P = aOf ws j * (P * Q) := by rw [Int.mul_assoc, Int.mul_comm Q P]
  omega
theorem dif_text (h : WtOk ws) (hzo : z < o) {i j : Nat} (hij : i < j) (hj : j < 4) : DifT ((wordsOf z o ws).getD i []) ((wordsOf z o ws).getD j []) := by
  rw [word_get h (by omega), word_get h hj]
  exact (dif_words h hij hj).text hzo
theorem word_ne (h : WtOk ws) {i : Nat} (hi : i < 4) : 1 ≤ ((wordsOf z o ws).getD i []).length ∧ ((wordsOf z o ws).getD i []).length ≤ 9 := by
  rw [word_get h hi, List.length_map, b_len]
  exact (s_ok h hi).2

/-- rows, letter by letter -/
inductive Tri : List Int → List Int → Prop
  | eq {a} : Tri a a
  | pre {c y v} : Tri c (c ++ y :: v)
  | suf {c y v} : Tri (c ++ y :: v) c
  | lt {c x y u v} : x < y → Tri (c ++ x :: u) (c ++ y :: v)
  | gt {c x y u v} : y < x → Tri (c ++ x :: u) (c ++ y :: v)
theorem tri : ∀ a b : List Int, Tri a b
  | [], [] => .eq
  | [], y :: v => .pre (c := [])
  | x :: u, [] => .suf (c := [])
  | x :: u, y :: v => by
    rcases Int.lt_trichotomy x y with h | h | h
    · exact .lt (c := []) h
    · subst h
      cases tri u v with
      | eq => exact .eq
      | pre => exact .pre (c := x :: u)
      | suf => exact .suf (c := x :: v)
      | lt h => rename_i c _ _ _ _; exact .lt (c := x :: c) h
      | gt h => rename_i c _ _ _ _; exact .gt (c := x :: c) h
    · exact .gt (c := []) h
theorem rk_bd {r : List Int} (h : RowOk r) (k : Nat) : 0 ≤ rkOf r k ∧ rkOf r k ≤ 4 := by
  unfold rkOf
  split
  · rename_i hk
    have := h.bd (r.getD k 0) (by rw [List.getD, List.getElem?_eq_getElem hk]; exact List.getElem_mem hk)
    omega
  · omega
noncomputable def prk (r : List Int) (n : Nat) : Int := (List.range n).foldl (fun s k => 5 * s + rkOf r k) 0
theorem prk_succ (r : List Int) (n : Nat) : prk r (n + 1) = 5 * prk r n + rkOf r n := by
  unfold prk; rw [List.range_succ, List.foldl_append]; rfl
theorem prk_eq {a b : List Int} {n : Nat} (he : ∀ k < n, rkOf a k = rkOf b k) : prk a n = prk b n := by
  induction n with
  | zero => rfl
  | succ n ih => rw [prk_succ, prk_succ, ih fun k hk => he k (Nat.lt_succ_of_lt hk), he n (Nat.lt_succ_self n)]
theorem hor {p q x y : Int} (h : p < q) (hx : x ≤ 4) (hy : 0 ≤ y) : 5 * p + x < 5 * q + y := by omega
theorem rank_lt {a b : List Int} (ha : RowOk a) (hb : RowOk b) {m : Nat} (hm : m < 6) (he : ∀ k < m, rkOf a k = rkOf b k) (hl : rkOf a m < rkOf b m) : rankOf a < rankOf b := by
  have h : ∀ j, prk a (m + 1 + j) < prk b (m + 1 + j) := by
    intro j
    induction j with
    | zero => rw [Nat.add_zero, prk_succ, prk_succ, prk_eq he]; exact Int.add_lt_add_left hl _
    | succ j ih => rw [← Nat.add_assoc, prk_succ, prk_succ]; exact hor ih (rk_bd ha _).2 (rk_bd hb _).1
  have h6 := h (5 - m)
  rw [show m + 1 + (5 - m) = 6 by omega] at h6
  exact h6
theorem rk_pre (c : List Int) (y : Int) (v : List Int) {k : Nat} (hk : k < c.length) : rkOf (c ++ y :: v) k = rkOf c k := by
  unfold rkOf
  rw [if_pos hk, if_pos (by simp; omega), List.getD, List.getD, List.getElem?_append_left hk]
theorem rk_at (c : List Int) (y : Int) (v : List Int) : rkOf (c ++ y :: v) c.length = y + 1 := by
  unfold rkOf
  rw [if_pos (by simp), List.getD, List.getElem?_append_right (Nat.le_refl _)]
  simp
theorem rk_end (c : List Int) : rkOf c c.length = 0 := by unfold rkOf; rw [if_neg (by omega)]
theorem code_app (words : List (List Nat)) (a b : List Int) : codeOf words (a ++ b) = codeOf words a ++ codeOf words b := by simp [codeOf]
theorem code_cons (words : List (List Nat)) (y : Int) (v : List Int) : codeOf words (y :: v) = words.getD y.toNat [] ++ codeOf words v := by simp [codeOf]
theorem RowOk.get {c : List Int} {y : Int} {v : List Int} (h : RowOk (c ++ y :: v)) : 0 ≤ y ∧ y ≤ 3 ∧ c.length < 6 := by
  have h1 := h.bd y (by simp)
  have h2 := h.len
  simp at h2
  exact ⟨h1.1, h1.2, by omega⟩
theorem pre_order (hw : WtOk ws) {c : List Int} {y : Int} {v : List Int} (hb : RowOk (c ++ y :: v)) (ha : RowOk c) :
    ltS (codeOf (wordsOf z o ws) c) (codeOf (wordsOf z o ws) (c ++ y :: v)) = true ∧ ltS (codeOf (wordsOf z o ws) (c ++ y :: v)) (codeOf (wordsOf z o ws) c) = false ∧ rankOf c < rankOf (c ++ y :: v) := by
  obtain ⟨y0, y1, hc⟩ := hb.get
  have hne : codeOf (wordsOf z o ws) (y :: v) ≠ [] := by
    rw [code_cons]
    have := (word_ne (z := z) (o := o) hw (i := y.toNat) (by omega)).1
    intro q
    have := congrArg List.length q
    simp at this
    simp [this] at *
  rw [code_app]
  obtain ⟨h1, h2⟩ := ltS_pre (u := codeOf (wordsOf z o ws) c) hne
  exact ⟨h1, h2, rank_lt ha hb hc (fun k hk => (rk_pre c y v hk).symm) (by rw [rk_end, rk_at]; omega)⟩
theorem dif_order (hw : WtOk ws) (hzo : z < o) {c : List Int} {x y : Int} {u v : List Int} (ha : RowOk (c ++ x :: u)) (hb : RowOk (c ++ y :: v)) (hxy : x < y) :
    ltS (codeOf (wordsOf z o ws) (c ++ x :: u)) (codeOf (wordsOf z o ws) (c ++ y :: v)) = true ∧ ltS (codeOf (wordsOf z o ws) (c ++ y :: v)) (codeOf (wordsOf z o ws) (c ++ x :: u)) = false ∧ rankOf (c ++ x :: u) < rankOf (c ++ y :: v) := by
  obtain ⟨x0, x1, hc⟩ := ha.get
  obtain ⟨y0, y1, _⟩ := hb.get
  have hd : DifT (codeOf (wordsOf z o ws) (c ++ x :: u)) (codeOf (wordsOf z o ws) (c ++ y :: v)) := by
    rw [code_app, code_app, code_cons, code_cons]
    exact ((dif_text hw hzo (i := x.toNat) (j := y.toNat) (by omega) (by omega)).left _ |>.right _).pre _
  obtain ⟨h1, h2⟩ := hd.lt
  exact ⟨h1, h2, rank_lt ha hb hc (fun k hk => by rw [rk_pre c x u hk, rk_pre c y v hk]) (by rw [rk_at, rk_at]; omega)⟩
/-- the texts stand as the rows -/
theorem order (hw : WtOk ws) (hzo : z < o) {a b : List Int} (ha : RowOk a) (hb : RowOk b) :
    b2i (ltS (codeOf (wordsOf z o ws) b) (codeOf (wordsOf z o ws) a)) - b2i (ltS (codeOf (wordsOf z o ws) a) (codeOf (wordsOf z o ws) b)) = if rankOf a = rankOf b then 0 else if rankOf b < rankOf a then 1 else -1 := by
  have up : ∀ {a b : List Int}, ltS (codeOf (wordsOf z o ws) a) (codeOf (wordsOf z o ws) b) = true ∧ ltS (codeOf (wordsOf z o ws) b) (codeOf (wordsOf z o ws) a) = false ∧ rankOf a < rankOf b →
      b2i (ltS (codeOf (wordsOf z o ws) b) (codeOf (wordsOf z o ws) a)) - b2i (ltS (codeOf (wordsOf z o ws) a) (codeOf (wordsOf z o ws) b)) = if rankOf a = rankOf b then 0 else if rankOf b < rankOf a then 1 else -1 := by
    intro a b ⟨h1, h2, h3⟩
    rw [h1, h2, if_neg (by omega), if_neg (by omega)]; rfl
  have dn : ∀ {a b : List Int}, ltS (codeOf (wordsOf z o ws) b) (codeOf (wordsOf z o ws) a) = true ∧ ltS (codeOf (wordsOf z o ws) a) (codeOf (wordsOf z o ws) b) = false ∧ rankOf b < rankOf a →
      b2i (ltS (codeOf (wordsOf z o ws) b) (codeOf (wordsOf z o ws) a)) - b2i (ltS (codeOf (wordsOf z o ws) a) (codeOf (wordsOf z o ws) b)) = if rankOf a = rankOf b then 0 else if rankOf b < rankOf a then 1 else -1 := by
    intro a b ⟨h1, h2, h3⟩
    rw [h1, h2, if_neg (by omega), if_pos h3]; rfl
  cases tri a b with
  | eq => rw [ltS_irrefl, if_pos rfl]; rfl
  | pre => exact up (pre_order hw hb ha)
  | suf => exact dn (pre_order hw ha hb)
  | lt h => exact up (dif_order hw hzo ha hb h)
  | gt h => exact dn (dif_order hw hzo hb ha h)
end
end
section
open PySem PySem.W PyProof.Rows PySem.Calls PyProof.V PySem.Spec PySem.SeqAt
noncomputable def codeB (ws : List Int) (row : List Int) : List Int := row.flatMap fun x => bOf ws x.toNat
section
variable {ws : List Int} {z o : Nat}
theorem code_bits (hw : WtOk ws) : ∀ {row : List Int}, (∀ x ∈ row, 0 ≤ x ∧ x ≤ 3) → codeOf (wordsOf z o ws) row = (codeB ws row).map (chOf z o)
  | [], _ => rfl
  | x :: r, h => by
    have h1 := h x List.mem_cons_self
    rw [code_cons, code_bits hw fun y hy => h y (List.mem_cons_of_mem _ hy), word_get hw (by omega)]
    simp [codeB]
theorem codeB_bits (row : List Int) : Bits (codeB ws row) := by
  intro b hb
  obtain ⟨x, _, hx⟩ := List.mem_flatMap.mp hb
  exact b_bits _ b hx
theorem bits_app {a b : List Int} (ha : Bits a) (hb : Bits b) : Bits (a ++ b) := fun x hx => (List.mem_append.mp hx).elim (ha x) (hb x)
theorem bits_zero (m : Nat) : Bits (List.replicate m 0) := fun b hb => .inl (List.eq_of_mem_replicate hb)
theorem und_rev : ∀ l : List Int, und 1 l.reverse = vB l
  | [] => rfl
  | b :: r => by
    rw [List.reverse_cons, und_append, und_rev r, vB, List.length_reverse, Nat.one_mul]
    simp only [und, Int.mul_zero, Int.add_zero]
    rw [Int.mul_comm]; omega
theorem rev_range {l : List Int} {m : Nat} (h : l.length = m) : (List.range m).map (fun k => l.getD (m - 1 - k) 0) = l.reverse := by
  apply List.ext_getElem
  · simp [h]
  · intro i h1 h2
    simp only [List.length_map, List.length_range] at h1
    simp only [List.getElem_map, List.getElem_range, List.getElem_reverse, List.getD]
    rw [List.getElem?_eq_getElem (by omega)]
    simp [h]
/-- what is read of a window -/
theorem share_in (hw : WtOk ws) {x most : Nat} (hx : x < 4) (hm : sOf ws x ≤ most) {Y : List Int} (hY : Bits Y) (hYl : Y.length = most - sOf ws x) :
    aOf ws x ≤ vB (bOf ws x ++ Y) * ws.sum / 2 ^ most ∧ vB (bOf ws x ++ Y) * ws.sum / 2 ^ most < aOf ws x + ws.getD x 0 := by
  obtain ⟨y0, y1⟩ := vB_bd hY
  obtain ⟨a1, a2⟩ := p_in hw hx
  have hT := hw.sum
  have hp := pow_pos' (sOf ws x)
  have hq := pow_pos' (most - sOf ws x)
  have hmP : (2 : Int) ^ most = 2 ^ sOf ws x * 2 ^ (most - sOf ws x) := by rw [← Int.pow_add, Nat.add_sub_cancel' hm]
  rw [hYl] at y1
  rw [vB_append, b_val hw hx, hYl, hmP]
  generalize (2 : Int) ^ (most - sOf ws x) = Q at *
  generalize (2 : Int) ^ sOf ws x = P at *
  generalize ws.sum = T at *
  generalize pOf ws x = p at *
  generalize vB Y = y at *
  have hPQ : 0 < P * Q := Int.mul_pos hp hq
  have b1 : aOf ws x * P * Q ≤ T * p * Q := Int.mul_le_mul_of_nonneg_right (by omega) (by omega)
  have b2 : T * (p + 1) * Q ≤ (aOf ws x + ws.getD x 0) * P * Q := Int.mul_le_mul_of_nonneg_right a2 (by omega)
  have b3 : 0 ≤ y * T := Int.mul_nonneg y0 (by omega)
  have b4 : y * T < Q * T := Int.mul_lt_mul_of_pos_right y1 (by omega)
  have e1 : (p * Q + y) * T = T * p * Q + y * T := by rw [Int.add_mul, Int.mul_comm (p * Q) T, ← Int.mul_assoc]
  have e2 : T * (p + 1) * Q = T * p * Q + Q * T := by rw [Int.mul_add, Int.mul_one, Int.add_mul, Int.mul_comm T Q]
  refine ⟨(Int.le_ediv_iff_mul_le hPQ).mpr ?_, Int.ediv_lt_of_lt_mul hPQ ?_⟩
  · rw [← Int.mul_assoc, e1]; omega
  · rw [← Int.mul_assoc, e1]; omega
theorem b_pos (hw : WtOk ws) {x : Nat} (hx : x < 4) : 1 ≤ (bOf ws x).length := by rw [b_len]; exact (s_ok hw hx).2.1
theorem codeB_app (a b : List Int) : codeB ws (a ++ b) = codeB ws a ++ codeB ws b := by simp [codeB]
theorem take_split {row : List Int} {i : Nat} {x : Int} (h : row[i]? = some x) : row = row.take i ++ x :: row.drop (i + 1) := by
  have hi := (List.getElem?_eq_some_iff.mp h).1
  have e := (List.getElem?_eq_some_iff.mp h).2
  have e2 : row.drop i = x :: row.drop (i + 1) := by rw [List.drop_eq_getElem_cons hi, e]
  rw [← e2, List.take_append_drop]
/-- the window in bits -/
theorem window (hw : WtOk ws) {row : List Int} {i : Nat} {x : Int} (hr : RowOk row) (h : row[i]? = some x) {most : Nat} (hm : sOf ws x.toNat ≤ most) :
    ∃ Y, Bits Y ∧ Y.length = most - sOf ws x.toNat ∧ ((codeB ws row ++ List.replicate most 0).drop (codeB ws (row.take i)).length).take most = bOf ws x.toNat ++ Y := by
  have e : codeB ws row = codeB ws (row.take i) ++ (bOf ws x.toNat ++ codeB ws (row.drop (i + 1))) := by
    have := congrArg (codeB ws) (take_split h)
    rw [codeB_app] at this
    rw [this]; congr 1
  rw [e, List.append_assoc, List.drop_append_of_le_length (Nat.le_refl _), List.drop_length, List.nil_append, List.append_assoc, List.take_append, List.take_of_length_le (by rw [b_len]; exact hm)]
  refine ⟨_, ?_, ?_, rfl⟩
  · intro b hb
    exact bits_app (codeB_bits _) (bits_zero _) b (List.mem_of_mem_take hb)
  · rw [List.length_take, b_len]; simp; omega
end
end
section
open PySem PySem.W PyProof.Rows PySem.Calls PyProof.V PySem.Spec PySem.SeqAt
theorem ph2 {l : List Int} {tg : Tag} {k : AV → Prop} (hne : l ≠ []) (h : ∀ M, M ∈ l → (∀ a ∈ l, a ≤ M) → k (aI M)) : (SS 2).φ [.list tg (l.map .int)] k := ⟨_, _, rfl, l, intsOf_map l, hne, h⟩
theorem ph12o {tg : Tag} {ds : List Int} {k : AV → Prop} (hl : ds.length ≤ 2 ^ 15) (hd : ∀ d ∈ ds, d = 0 ∨ d = 1) (hk : k (aI (und 1 ds))) : (SS 12).φ [.list tg (ds.map .int), aI 1] k :=
  ph12 (n := 1) (by decide) (by decide) hl (by omega) (fun d h => by rcases hd d h with rfl | rfl <;> decide) hk
theorem ix_bit {z o : Nat} {b : Int} {k : AV → Prop} (hb : b = 0 ∨ b = 1) (hzo : z ≠ o) (h : k (aI b)) : indexE (aS [z, o]) [aS [chOf z o b]] k := by
  rcases hb with rfl | rfl
  · exact ⟨z, 0, rfl, rfl, nofun, h⟩
  · refine ⟨o, 1, rfl, rfl, fun j hj => ?_, h⟩
    have : j = 0 := by omega
    subst this
    simpa using hzo
theorem getD_map' {z o : Nat} {l : List Int} {m : Nat} (h : m < l.length) : (l.map (chOf z o)).getD m 0 = chOf z o (l.getD m 0) := by
  simp [List.getD, List.getElem?_map, List.getElem?_eq_getElem h]
section
variable {W : Wd} {f : Addr} {fd : FuncData}
set_option maxRecDepth 10000
noncomputable def rdρ (ws cl row : List Int) (z o : Nat) (i most : Nat) : Loc := [(nm "text", aS (codeOf (wordsOf z o ws) row)), (nm "weights", .list .shr (ws.map .int)), (nm "words", .list .shr (strL (wordsOf z o ws))), (nm "signs", aS [z, o]), (nm "cells", .list .shr (cl.map .int)),
  (nm "max", .fn 2), (nm "len", .fn 0), (nm "_digits2int", .fn 12), (nm "range", .fn 1), (nm "_law_part", .fn 24), (nm "sum", .fn 3), (nm "isub", .fn 19), (nm "most", aI most), (nm "row", .list .own ((row.take i).map .int)), (nm "place", aI ((codeB ws (row.take i)).length : Nat))]
theorem t_read (ws cl row : List Int) (z o : Nat) (k : AV → Prop) (t1 t2 t4 : Tag) (hzo : z ≠ o) (hw : WtOk ws) (hr : RowOk row) (hcl : cl.length = 7) (hk : k (.list .tmp (row.map .int))) :
    exs (exE SS 20 true 20 (nm "row") (fnScope (stAt 25)) 10) (fnBody (stAt 25)) (entry [nm "text", nm "weights", nm "words", nm "signs", nm "cells"] [aS (codeOf (wordsOf z o ws) row), .list t1 (ws.map .int), .list t2 (strL (wordsOf z o ws)), aS [z, o], .list t4 (cl.map .int)] ++
      [(nm "max", .fn 2), (nm "len", .fn 0), (nm "_digits2int", .fn 12), (nm "range", .fn 1), (nm "_law_part", .fn 24), (nm "sum", .fn 3), (nm "isub", .fn 19)]) (fun _ => False) (back k) := by
  have hT := hw.sum
  have hwl : (wordsOf z o ws).length = 4 := by unfold wordsOf; rw [wf_len, hw.len]
  conv => arg 1; arg 6; whnf
  conv => arg 2; whnf
  conv => arg 3; simp only [entry, argA, List.cons_append, List.nil_append]
  refine xs_cons ?_
  repeat' (first | walk_at "m_base")
  refine ev_comp (fun _ _ => rfl) (by decide +kernel) (fun v => match v with | .str x => .int x.length | v => v) ?_
  repeat' (first | walk_at "m_base")
  refine ⟨_, rfl, by simp [strL, hwl], fun v hv => ?_, ?_⟩
  · obtain ⟨x, hx, rfl⟩ := List.mem_map.mp hv
    walk_at "m_cr"
    have hxl : x.length ≤ 2 ^ 20 := by
      obtain ⟨i, hi, rfl⟩ := List.getElem_of_mem hx
      have := (word_ne (z := z) (o := o) hw (i := i) (by omega)).2
      rw [List.getD, List.getElem?_eq_getElem hi] at this
      simp at this; omega
    repeat' (first | with_reducible apply ph0S | with_reducible apply xs_cons | walk_at "m_base" | (with_reducible refine And.intro ?_ ?_))
    · rw [len_mkS]; exact hxl
    · rfl
  have e1 : (strL (wordsOf z o ws)).map (fun v => match v with | .str x => SV.int x.length | v => v) = ((wordsOf z o ws).map fun w => (w.length : Int)).map .int := by
    simp only [strL, List.map_map]
    apply List.map_congr_left
    intro w _
    simp [Function.comp_def, len_mkS]
  rw [e1]
  refine ev_call0 (ph2 (fun q => by have := congrArg List.length q; simp [hwl] at this) fun M hM hmx => ?_)
  obtain ⟨w0, hw0, rfl⟩ := List.mem_map.mp hM
  have hmost : w0.length ≤ 9 := by
    obtain ⟨i, hi, rfl⟩ := List.getElem_of_mem hw0
    have := (word_ne (z := z) (o := o) hw (i := i) (by omega)).2
    rw [List.getD, List.getElem?_eq_getElem hi] at this
    simpa using this
  have hsm : ∀ i < 4, sOf ws i ≤ w0.length := by
    intro i hi
    have := hmx (((wordsOf z o ws).getD i []).length : Int) (List.mem_map.mpr ⟨_, by rw [List.getD, List.getElem?_eq_getElem (by omega)]; exact List.getElem_mem (by omega), rfl⟩)
    rw [word_get hw hi, List.length_map, b_len] at this
    omega
  generalize w0.length = most at *
  refine so_sc ?_
  with_reducible apply xs_cons
  repeat' (first | walk_at "m_base" | (with_reducible refine And.intro ?_ ?_))
  · simp
  · simp
  have hcb : ∀ r : List Int, (∀ x ∈ r, 0 ≤ x ∧ x ≤ 3) → (codeOf (wordsOf z o ws) r).length = (codeB ws r).length := fun r h => by rw [code_bits hw h, List.length_map]
  have hcl1 : (codeOf (wordsOf z o ws) row).length = (codeB ws row).length := hcb row hr.bd
  have hbl : ∀ (r : List Int), (∀ x ∈ r, 0 ≤ x ∧ x ≤ 3) → (codeB ws r).length ≤ 9 * r.length := by
    intro r
    induction r with
    | nil => intro _; simp [codeB]
    | cons a r ih =>
      intro h
      have h1 := h a List.mem_cons_self
      have h2 := ih fun x hx => h x (List.mem_cons_of_mem _ hx)
      have h3 := (s_ok hw (i := a.toNat) (by omega)).2.2
      simp only [codeB, List.flatMap_cons, List.length_append, List.length_cons, b_len] at h2 ⊢
      omega
  have hlen54 : (codeB ws row).length ≤ 54 := by have := hbl row hr.bd; have := hr.len; omega
  refine xs_cons (ex_while (fun m ρ => ∃ i, i ≤ row.length ∧ m = row.length - i ∧ ρ = rdρ ws cl row z o i most) ⟨row.length, 0, Nat.zero_le _, rfl, ?_⟩ fun m ρ' hI => ?_)
  · unfold rdρ
    walk_at "m_norm"
    rfl
  · obtain ⟨i, hi, rfl, rfl⟩ := hI
    unfold rdρ
    repeat' (first | with_reducible apply ph0S | walk_at "m_base")
    · rw [len_mkS]; omega
    · rename_i q
      rw [len_mkS, hcl1] at q
      have hilt : i < row.length := by
        rcases Nat.lt_or_ge i row.length with c | c
        · exact c
        · rw [List.take_of_length_le c] at q; omega
      obtain ⟨x, hx⟩ : ∃ x, row[i]? = some x := ⟨_, List.getElem?_eq_getElem hilt⟩
      have hxb := hr.bd x (List.mem_of_getElem? hx)
      have hx4 : x.toNat < 4 := by omega
      obtain ⟨Y, hY, hYl, hwin⟩ := window hw hr hx (hsm _ hx4)
      obtain ⟨S0, S1⟩ := share_in hw hx4 (hsm _ hx4) hY hYl
      have hcode := code_bits (z := z) (o := o) hw hr.bd
      have hpl : (codeB ws (row.take i)).length ≤ (codeB ws row).length := by omega
      have eR : (List.replicate (most : Int).toNat (cs (mkS [[z, o].getD (Int.toNat 0) 0]))).flatten = List.replicate most z := by
        rw [show ([z, o].getD (Int.toNat 0) 0) = z from rfl, cs_mkS]; simp
      have eRl : (cs (mkS (codeOf (wordsOf z o ws) row)) ++ cs (mkS (List.replicate (most : Int).toNat (cs (mkS [[z, o].getD (Int.toNat 0) 0]))).flatten)).length = (codeB ws row).length + most := by
        rw [eR, cs_mkS, cs_mkS, List.length_append, hcl1, List.length_replicate]
      have hm1 : 1 ≤ most := by have := hsm 0 (by decide); have := (s_ok hw (i := 0) (by decide)).2.1; omega
      have hW : ((cs (mkS (codeOf (wordsOf z o ws) row)) ++ cs (mkS (List.replicate (most : Int).toNat (cs (mkS [[z, o].getD (Int.toNat 0) 0]))).flatten)).drop ((codeB ws (row.take i)).length : Int).toNat).take (((codeB ws (row.take i)).length : Int) + most - ((codeB ws (row.take i)).length : Int)).toNat = (bOf ws x.toNat ++ Y).map (chOf z o) := by
        rw [eR, cs_mkS, cs_mkS, Int.toNat_natCast, show ((codeB ws (row.take i)).length : Int) + most - ((codeB ws (row.take i)).length : Int) = most by omega, Int.toNat_natCast, ← hwin, hcode]
        rw [show List.replicate most z = (List.replicate most (0 : Int)).map (chOf z o) by simp [chOf], ← List.map_append, List.map_take, List.map_drop]
      have hWB : Bits (bOf ws x.toNat ++ Y) := bits_app (b_bits _) hY
      have hWl : (bOf ws x.toNat ++ Y).length = most := by rw [List.length_append, b_len, hYl]; have := hsm _ hx4; omega
      with_reducible apply xs_cons
      repeat' (first | with_reducible apply sl_mid | walk_at "m_base" | (with_reducible refine And.intro ?_ ?_))
      · decide
      · simp
      · simp
      · omega
      · rw [len_mkS]; simp; omega
      · omega
      · rw [eR, len_mkS, len_mkS, hcl1, List.length_replicate]; simp only [sizeLine]; omega
      · omega
      · omega
      · rw [eRl]; omega
      · rw [eRl]; omega
      rw [hW]
      generalize bOf ws x.toNat ++ Y = WB at *
      clear hW eRl eR
      refine xs_cons ?_
      repeat' (first | walk_at "m_base")
      refine ev_comp (fun _ _ => rfl) (by decide +kernel) (fun v => match v with | .int k => .int (WB.getD (most - 1 - k.toNat) 0) | v => v) ?_
      repeat' (first | with_reducible apply ph1 | walk_at "m_base")
      · omega
      · omega
      refine ⟨_, rfl, by simp; omega, fun v hv => ?_, ?_⟩
      · obtain ⟨j, hj, rfl⟩ := List.mem_map.mp hv
        rw [List.mem_range, Int.toNat_natCast] at hj
        walk_at "m_norm"
        walk_at "m_cr"
        have ej : ((most : Int) - 1 - j).toNat = most - 1 - j := ns_cast
        repeat' (first | with_reducible apply xs_cons | walk_at "m_base" | (with_reducible refine And.intro ?_ ?_))
        · omega
        · rw [List.length_map]; omega
        · rw [List.length_map]; omega
        · rw [ej, Int.toNat_natCast, getD_map' (by omega)]
          refine ix_bit (hWB _ ?_) hzo rfl
          rw [List.getD, List.getElem?_eq_getElem (by omega)]
          exact List.getElem_mem (by omega)
      · rw [Int.toNat_natCast]
        have e2 : ((List.range most).map fun (i : Nat) => SV.int (i : Int)).map (fun v => match v with | .int k => SV.int (WB.getD (most - 1 - k.toNat) 0) | v => v) = (WB.reverse).map .int := by
          rw [← rev_range hWl, List.map_map, List.map_map]
          apply List.map_congr_left
          intro i _
          simp
        rw [e2]
        repeat' (first | with_reducible apply ph12o | walk_at "m_base")
        · rw [List.length_reverse]; omega
        · intro d hd; exact hWB d (List.mem_reverse.mp hd)
        rw [und_rev]
        obtain ⟨v0, v1⟩ := vB_bd hWB
        rw [hWl] at v1
        have hmp := pow_pos' most
        have ibv : intBits (vB WB) ≤ 9 := Nat.le_trans ((ib_le v0).mpr v1) hmost
        have ibT : intBits ws.sum ≤ 8 := ib_small (by omega) (by have : (2 : Int) ^ 8 = 256 := rfl
                                                                 omega)
        have ib2 : Builtin.Int.intBits 2 = 2 := by decide +kernel
        generalize vB WB = V at *
        with_reducible apply xs_cons
        repeat' (first | with_reducible apply ph3 | with_reducible apply ph24 | walk_at "m_base" | (with_reducible refine And.intro ?_ ?_))
        all_goals (try rw [Int.toNat_natCast])
        · exact IntMulOk.of_le ibv ibT (by decide)
        · omega
        · rw [ib2]; omega
        · exact Int.mul_nonneg v0 (by omega)
        · exact hmp
        · exact Nat.le_trans (ib_mul ibv ibT) (by decide)
        · exact Nat.le_trans (ib_pow most) (by omega)
        · exact hcl
        generalize V * ws.sum / 2 ^ most = Sh at *
        with_reducible apply xs_cons
        repeat' (first | walk_at "m_base" | (with_reducible refine And.intro ?_ ?_))
        walk_at "m_norm"
        have hw4 := hw.len
        have hxx : ((x.toNat : Nat) : Int) = x := by omega
        generalize hX : x.toNat = X at *
        have hsX : aOf ws (X + 1) = aOf ws X + ws.getD X 0 := a_succ hw hx4
        refine xs_cons (ex_while (fun m ρ => ∃ j, j ≤ X ∧ m = X - j ∧ ρ = [(nm "text", aS (codeOf (wordsOf z o ws) row)), (nm "weights", .list .shr (ws.map .int)), (nm "words", .list .shr (strL (wordsOf z o ws))), (nm "signs", aS [z, o]), (nm "cells", .list .shr (cl.map .int)),
          (nm "max", .fn 2), (nm "len", .fn 0), (nm "_digits2int", .fn 12), (nm "range", .fn 1), (nm "_law_part", .fn 24), (nm "sum", .fn 3), (nm "isub", .fn 19), (nm "most", aI most), (nm "row", .list .own ((row.take i).map .int)), (nm "place", aI ((codeB ws (row.take i)).length : Nat)),
          (nm "window", aS (WB.map (chOf z o))), (nm "number", aI V), (nm "share", aI (Sh - aOf ws j)), (nm "letter", aI (j : Nat))]) ⟨X, 0, Nat.zero_le _, rfl, ?_⟩ fun m ρ' hI => ?_)
        · simp [aOf]
        · obtain ⟨j, hjX, rfl, rfl⟩ := hI
          have hj4 : j < 4 := by omega
          have hsj : aOf ws (j + 1) = aOf ws j + ws.getD j 0 := a_succ hw hj4
          have mono1 : j + 1 ≤ X → aOf ws (j + 1) ≤ aOf ws X := fun h => a_mono hw h
          have mono2 : X + 1 ≤ j + 1 → aOf ws (X + 1) ≤ aOf ws (j + 1) := fun h => a_mono hw h
          repeat' (first | walk_at "m_base")
          · omega
          · omega
          · omega
          · rename_i q1 q2
            rw [Int.toNat_natCast] at q2
            with_reducible apply xs_cons
            repeat' (first | with_reducible apply ph19 | walk_at "m_base" | (with_reducible refine And.intro ?_ ?_))
            · omega
            · omega
            · omega
            · simp
            rw [Int.toNat_natCast]
            have hjl : j + 1 ≤ X := by omega
            refine ⟨X - (j + 1), ns_lt' hjl, j + 1, hjl, rfl, ?_⟩
            walk_at "m_norm"
            rw [hsj, show Sh - aOf ws j - ws.getD j 0 = Sh - (aOf ws j + ws.getD j 0) by omega]
            rfl
          · rename_i q1 q2
            rw [Int.toNat_natCast] at q2
            have hjE : j = X := by omega
            subst hjE
            with_reducible apply xs_cons
            repeat' (first | walk_at "m_base" | (with_reducible refine And.intro ?_ ?_))
            · have := hr.len; simp; omega
            · have hd0 : ((wordsOf z o ws).getD (j : Int).toNat []).length = (bOf ws j).length := by rw [Int.toNat_natCast, word_get hw hj4, List.length_map]
              have hd9 : (bOf ws j).length ≤ 9 := by rw [b_len]; exact (s_ok hw hj4).2.2
              have hd1 : (codeB ws (row.take (i + 1))).length = (codeB ws (row.take i)).length + (bOf ws j).length := by
                rw [take_succ_get hx, codeB_app, List.length_append, ← hX]
                simp [codeB]
              with_reducible apply xs_cons
              repeat' (first | with_reducible apply ph0S | with_reducible apply su_strL | walk_at "m_base" | (with_reducible refine And.intro ?_ ?_))
              · omega
              · rw [hwl]; omega
              · rw [hwl]; decide
              · rw [len_mkS, hd0]; omega
              · rw [len_mkS, hd0]
                refine ⟨row.length - (i + 1), by omega, i + 1, by omega, rfl, ?_⟩
                walk_at "m_norm"
                rw [hd1, take_succ_get hx, List.map_append, hxx]
                simp
            all_goals (exfalso; omega)
          · rename_i q1
            have hjE : j = X := by omega
            subst hjE
            with_reducible apply xs_cons
            repeat' (first | walk_at "m_base" | (with_reducible refine And.intro ?_ ?_))
            · have := hr.len; simp; omega
            · have hd0 : ((wordsOf z o ws).getD (j : Int).toNat []).length = (bOf ws j).length := by rw [Int.toNat_natCast, word_get hw hj4, List.length_map]
              have hd9 : (bOf ws j).length ≤ 9 := by rw [b_len]; exact (s_ok hw hj4).2.2
              have hd1 : (codeB ws (row.take (i + 1))).length = (codeB ws (row.take i)).length + (bOf ws j).length := by
                rw [take_succ_get hx, codeB_app, List.length_append, ← hX]
                simp [codeB]
              with_reducible apply xs_cons
              repeat' (first | with_reducible apply ph0S | with_reducible apply su_strL | walk_at "m_base" | (with_reducible refine And.intro ?_ ?_))
              · omega
              · rw [hwl]; omega
              · rw [hwl]; decide
              · rw [len_mkS, hd0]; omega
              · rw [len_mkS, hd0]
                refine ⟨row.length - (i + 1), by omega, i + 1, by omega, rfl, ?_⟩
                walk_at "m_norm"
                rw [hd1, take_succ_get hx, List.map_append, hxx]
                simp
            all_goals (exfalso; omega)
    · rename_i q
      rw [len_mkS, hcl1] at q
      have hiE : row.take i = row := by
        rcases Nat.lt_or_ge i row.length with c | c
        · exfalso
          obtain ⟨x, hx⟩ : ∃ x, row[i]? = some x := ⟨_, List.getElem?_eq_getElem c⟩
          have hxb := hr.bd x (List.mem_of_getElem? hx)
          have e := congrArg List.length (congrArg (codeB ws) (take_split hx))
          rw [codeB_app, List.length_append] at e
          have := b_pos hw (x := x.toNat) (by omega)
          have e2 : (codeB ws (x :: row.drop (i + 1))).length = (bOf ws x.toNat).length + (codeB ws (row.drop (i + 1))).length := by simp [codeB]
          omega
        · exact List.take_of_length_le c
      with_reducible apply xs_cons
      repeat' (first | walk_at "m_base" | (with_reducible refine And.intro ?_ ?_))
      rw [hiE]
      exact hk
theorem ok_read (T : TopFn W 25 f fd [nm "text", nm "weights", nm "words", nm "signs", nm "cells"]) (G : GlobOk W SS (fnScope (stAt 25)) [(nm "max", .fn 2), (nm "len", .fn 0), (nm "_digits2int", .fn 12), (nm "range", .fn 1), (nm "_law_part", .fn 24), (nm "sum", .fn 3), (nm "isub", .fn 19)]) : FnOk W (SS 26) (.ref f) := by
  refine top_ok (S := SS) (N := 20) (n := 10) (on := nm "row") T (by decide +kernel) G rfl fun as k h => ?_
  have h' : fRead as k := h
  obtain ⟨tt, tg1, a, tg2, b, c, tg3, d, rfl, h'⟩ := h'
  obtain ⟨row, ws, z, o, cl, hzo, ht, rfl, rfl, rfl, rfl, hw, hr, hcl, hk⟩ := h'
  rw [← mkS_cs tt, ht]
  exact ⟨rfl, rfl, t_read ws cl row z o _ _ _ _ hzo hw hr hcl hk⟩
end
end
section
open PySem PySem.W PyProof.Rows PySem.Calls PyProof.V PySem.Spec PySem.SeqAt
theorem ph20 {l : List Int} {tg : Tag} {k : AV → Prop} (hl : l.length ≤ 63) (h : ∀ c : List Int, c.length = 7 → k (.list .tmp (c.map .int))) : (SS 20).φ [.list tg (l.map .int)] k := ⟨_, _, rfl, ⟨l, rfl, hl⟩, h⟩
theorem ph25 {ws cl : List Int} {z o : Nat} {t1 t2 : Tag} {k : AV → Prop} (hw : WtOk ws) (hcl : cl.length = 7) (h : k (.list .tmp (strL (wordsOf z o ws)))) : (SS 25).φ [.list t1 (ws.map .int), aS [z, o], .list t2 (cl.map .int)] k := ⟨_, _, _, _, _, rfl, ws, z, o, cl, rfl, rfl, rfl, hw, hcl, h⟩
/-- the two signs -/
structure SgOk (z o : Nat) : Prop where
  lt : z < o
  z : z < 256
  o : o < 256
theorem su_signs {i : Int} {k : AV → Prop} (h0 : 0 ≤ i) (h1 : i < 3) (h : ∀ z o, SgOk z o → k (aS [z, o])) : subE (.list .tmp [.str (Str.ofString "Za"), .str (Str.ofString "zé"), .str (Str.ofString " 9")]) (aI i) k := by
  have e1 : Str.ofString "Za" = mkS [90, 97] := by decide +kernel
  have e2 : Str.ofString "zé" = mkS [122, 233] := by decide +kernel
  have e3 : Str.ofString " 9" = mkS [32, 57] := by decide +kernel
  rw [e1, e2, e3]
  rcases (show i = 0 ∨ i = 1 ∨ i = 2 by omega) with rfl | rfl | rfl
  · exact SubE.list ⟨by decide, by decide, _, rfl, h _ _ ⟨by decide, by decide, by decide⟩⟩
  · exact SubE.list ⟨by decide, by decide, _, rfl, h _ _ ⟨by decide, by decide, by decide⟩⟩
  · exact SubE.list ⟨by decide, by decide, _, rfl, h _ _ ⟨by decide, by decide, by decide⟩⟩
theorem chars_words {ws : List Int} {z o : Nat} {w : List Nat} (hw : w ∈ wordsOf z o ws) : ∀ c ∈ w, c = z ∨ c = o := by
  have : ∀ (l : List Int) (a : Int), ∀ w ∈ wordsFrom z o ws.sum a l, ∀ c ∈ w, c = z ∨ c = o := by
    intro l
    induction l with
    | nil => intro a w hw; cases hw
    | cons x r ih =>
      intro a w hw
      rcases List.mem_cons.mp hw with rfl | hw
      · intro c hc
        obtain ⟨b, _, rfl⟩ := List.mem_map.mp hc
        unfold chOf; split
        · exact .inl rfl
        · exact .inr rfl
      · exact ih _ w hw
  exact this ws 0 w hw
theorem strOk_of {z o : Nat} (h : SgOk z o) {w : List Nat} (hw : ∀ c ∈ w, c = z ∨ c = o) : PyData.strOk (mkS w) = true := by
  unfold PyData.strOk mkS
  rw [List.all_toArray, List.all_eq_true]
  intro c hc
  have h1 := h.z
  have h2 := h.o
  rcases hw c hc with rfl | rfl <;> simp <;> omega
theorem isStrs_of {z o : Nat} (h : SgOk z o) : ∀ {l : List (List Nat)}, (∀ w ∈ l, ∀ c ∈ w, c = z ∨ c = o) → isStrs (strL l) = true
  | [], _ => rfl
  | w :: r, hw => by
    have h1 := strOk_of h (hw w List.mem_cons_self)
    have h2 := isStrs_of h (l := r) fun w' hw' => hw w' (List.mem_cons_of_mem _ hw')
    show (PyData.strOk (mkS w) && isStrs (strL r)) = true
    rw [h1, h2]; rfl
theorem strs_ok {ws : List Int} {z o : Nat} (h : SgOk z o) (hw : WtOk ws) : isStrs (strL (wordsOf z o ws)) = true := isStrs_of h fun w hw => chars_words hw
section
set_option maxRecDepth 10000
noncomputable def lwGlob : Loc := [(nm "_law_cells", .fn 20), (nm "range", .fn 1), (nm "_law_words", .fn 25), (nm "concat", .fn 16), (nm "_law_told", .fn 23), (nm "_law_pieces", .fn 27), (nm "len", .fn 0), (nm "_law_row", .fn 21), (nm "_law_read", .fn 26), (nm "_law_rank", .fn 22)]
noncomputable def lwA (sc cl ws : List Int) (z o : Nat) : Loc := [(nm "script", .list .shr (sc.map .int)), (nm "_law_cells", .fn 20), (nm "range", .fn 1), (nm "_law_words", .fn 25), (nm "concat", .fn 16), (nm "_law_told", .fn 23), (nm "_law_pieces", .fn 27), (nm "len", .fn 0), (nm "_law_row", .fn 21), (nm "_law_read", .fn 26), (nm "_law_rank", .fn 22),
  (nm "cells", .list .shr (cl.map .int)), (nm "weights", .list .shr (ws.map .int)), (nm "signs", aS [z, o]), (nm "words", .list .shr (strL (wordsOf z o ws)))]
theorem t_lwA (sc : List Int) (kn : Loc → Prop) (kr : AV → Prop) (hl : sc.length ≤ 63) (h : ∀ cl ws z o, cl.length = 7 → WtOk ws → SgOk z o → kn (lwA sc cl ws z o)) :
    exs (exE SS 21 true 20 (nm "texts") (fnScope (stAt 27)) 10) [gg 27 0, gg 27 1, gg 27 2, gg 27 3, gg 27 4] ((nm "script", .list .shr (sc.map .int)) :: lwGlob) kn kr := by
  conv => arg 1; arg 6; whnf
  conv => arg 2; arg 1; whnf
  conv => arg 2; arg 2; arg 1; whnf
  conv => arg 2; arg 2; arg 2; arg 1; whnf
  conv => arg 2; arg 2; arg 2; arg 2; arg 1; whnf
  conv => arg 2; arg 2; arg 2; arg 2; arg 2; arg 1; whnf
  unfold lwGlob
  refine xs_cons ?_
  repeat' (first | with_reducible apply ph20 | walk_at "m_base")
  · exact hl
  intro cl hcl
  refine so_tmp (by decide +kernel) ?_
  refine xs_cons (ex_comp (fun _ _ => rfl) (by decide +kernel) (by decide +kernel) (by decide +kernel) (by decide +kernel) (fun v => match v with | .int k => .int (1 + cl.getD k.toNat 0 % 50) | v => v) ?_)
  repeat' (first | with_reducible apply ph1 | walk_at "m_base")
  · decide
  · decide
  refine ⟨_, rfl, by decide, fun v hv => ?_, ?_⟩
  · obtain ⟨j, hj, rfl⟩ := List.mem_map.mp hv
    have hj4 : j < 4 := List.mem_range.mp hj
    walk_at "m_norm"
    walk_at "m_cr"
    repeat' (first | with_reducible apply xs_cons | walk_at "m_base" | (with_reducible refine And.intro ?_ ?_))
    · omega
    · omega
    · omega
    · decide
    · rw [fmod_pos (by decide)]
  have ew : ((List.range (4 : Int).toNat).map fun (i : Nat) => SV.int (i : Int)).map (fun v => match v with | .int k => SV.int (1 + cl.getD k.toNat 0 % 50) | v => v) = ((List.range 4).map fun k => 1 + cl.getD k 0 % 50).map .int := by
    rw [List.map_map, List.map_map]
    apply List.map_congr_left
    intro i _
    simp
  rw [ew]
  have hw : WtOk ((List.range 4).map fun k => 1 + cl.getD k 0 % 50) := by
    refine ⟨by simp, fun w hw => ?_⟩
    obtain ⟨j, _, rfl⟩ := List.mem_map.mp hw
    have := Int.emod_nonneg (cl.getD j 0) (by decide : (50 : Int) ≠ 0)
    have := Int.emod_lt_of_pos (cl.getD j 0) (by decide : (0 : Int) < 50)
    omega
  generalize (List.range 4).map (fun k => 1 + cl.getD k 0 % 50) = ws at *
  walk_at "m_norm"
  with_reducible apply xs_cons
  repeat' (first | with_reducible apply su_signs | walk_at "m_base" | (with_reducible refine And.intro ?_ ?_))
  · simp
  · decide
  · omega
  · omega
  · decide
  · exact Int.fmod_nonneg_of_pos _ (by decide)
  · exact Int.fmod_lt_of_pos _ (by decide)
  intro z o hzo
  refine so_sc ?_
  with_reducible apply xs_cons
  repeat' (first | with_reducible apply ph25 | walk_at "m_base" | (with_reducible refine And.intro ?_ ?_))
  · exact hw
  · exact hcl
  have hWl : (wordsOf z o ws).length = 4 := by unfold wordsOf; rw [wf_len, hw.len]
  with_reducible apply xs_cons
  repeat' (first | walk_at "m_base" | (with_reducible refine And.intro ?_ ?_))
  · decide
  · have : isStrs (strL (wordsOf z o ws)) = true := strs_ok hzo hw
    rw [this]; simp [isStrs]
  · simp [strL, hWl]
  · simp
  · rename_i q
    have := congrArg List.length (of_decide_eq_true q)
    simp [strL, hWl] at this
  walk_at "m_norm"
  exact h cl ws z o hcl hw hzo
end
end
section
open PySem PySem.W PyProof.Rows PySem.Calls PyProof.V PySem.Spec PySem.SeqAt
theorem ph16 {x y : Str} {k : AV → Prop} (h0 : x.length + y.length ≤ sizeLine) (h : k (aS (cs x ++ cs y))) : (SS 16).φ [.sc (.str x), .sc (.str y)] k := ⟨_, _, rfl, h0, h⟩
theorem ph23 {x y : Str} {k : AV → Prop} (h : k (aI (b2i (ltS (cs y) (cs x)) - b2i (ltS (cs x) (cs y))))) : (SS 23).φ [.sc (.str x), .sc (.str y)] k := ⟨_, _, rfl, h⟩
theorem cut_app (a w : List Nat) (r : List Int) : cut (a ++ w) ((w.length : Int) :: r) = w :: cut a r := by
  simp only [cut, Int.toNat_natCast, List.length_append]
  rw [Nat.add_sub_cancel, List.drop_append_of_le_length (Nat.le_refl _), List.drop_length, List.nil_append, List.take_append_of_le_length (Nat.le_refl _), List.take_length]
theorem more_eq : Str.ofString "more" = mkS more := by decide +kernel
theorem ph27x {x : Str} {u v : List Nat} {vs : List SV} {tg : Tag} {k : AV → Prop} (hx : cs x = (List.replicate 4 u).flatten ++ v) (hvs : vs = [.int v.length, .int u.length, .int 0, .int 127]) (hu0 : 1 ≤ u.length) (hu1 : u.length ≤ 9) (hv0 : 1 ≤ v.length) (hv1 : v.length ≤ 9)
    (h : k (.list .tmp (strL [v, u, u, u, u] ++ [.str (Str.ofString "more")]))) : (SS 27).φ [.sc (.str x), .list tg vs, aI 5] k := by
  refine ⟨_, _, _, _, rfl, ?_⟩
  have e4 : (List.replicate 4 u).flatten ++ v = [] ++ u ++ u ++ u ++ u ++ v := by simp [List.replicate]
  have hl : (cs x).length = 4 * u.length + v.length := by rw [hx, e4]; simp; omega
  have hb : Beh false [(v.length : Int), u.length, 0, 127] none ((v.length : Int) :: (u.length : Int) :: List.replicate (3 + 1) (u.length : Int)) :=
    .one (by omega) (by omega) (.one (by omega) (by omega) (.zero rfl))
  refine ⟨[v.length, u.length, 0, 127], false, _, by rw [hvs]; rfl, hb, by simp, by simp, by rw [hl]; omega, ?_, ?_, .inr ⟨rfl, by decide, by simp, ?_⟩⟩
  · intro n hn
    have : n = v.length ∨ n = u.length := by
      have := List.mem_of_mem_take hn
      simp at this; omega
    omega
  · simp only [show (5 : Int).toNat = 5 from rfl]
    rw [hl]
    simp [List.replicate]; omega
  · have : cut (cs x) (((v.length : Int) :: (u.length : Int) :: List.replicate (3 + 1) (u.length : Int)).take (5 : Int).toNat) = [v, u, u, u, u] := by
      rw [hx, e4, show (5 : Int).toNat = 5 from rfl]
      simp only [List.replicate, List.take]
      rw [cut_app, cut_app, cut_app, cut_app, cut_app]
      rfl
    rw [this]
    exact h
theorem ph27y {u v : List Nat} {tg : Tag} {k : AV → Prop} (hu0 : 1 ≤ u.length) (hu1 : u.length ≤ 9) (hv0 : 1 ≤ v.length) (hv1 : v.length ≤ 9) (h : k (.list .tmp (strL [v, u, u, u, u] ++ [.str (Str.ofString "more")]))) :
    (SS 27).φ [.sc (.str (mkS (cs (mkS ((List.replicate (Int.toNat 4) (cs (mkS u))).flatten)) ++ cs (mkS v)))), .list tg [.int ((mkS v).length), .int ((mkS u).length), .int 0, .int 127], aI 5] k :=
  ph27x (by rw [cs_mkS, cs_mkS, cs_mkS, cs_mkS]; rfl) (by rw [len_mkS, len_mkS]) hu0 hu1 hv0 hv1 h
noncomputable def lwX (u v : List Nat) : List SV := strL [v, u, u, u, u] ++ [.str (Str.ofString "more")]
section
set_option maxRecDepth 10000
theorem e27_5 : gg 27 5 = gg 27 5 := rfl
noncomputable def forIn' : List Stmt → List Stmt := fun l => l
theorem t_lwPair (sc cl ws : List Int) (z o : Nat) (i : Nat) (hi : i < 3) (kn : Loc → Prop) (kr : AV → Prop) (hw : WtOk ws) (hzo : SgOk z o)
    (h : ∀ w, kn (setv (nm "word") w ((nm "k", aI i) :: lwA sc cl ws z o))) :
    exE SS 21 true 20 (nm "texts") (fnScope (stAt 27)) 9 ((nm "k", aI i) :: lwA sc cl ws z o) ((forBody (gg 27 5)).getD 0 (.Pass ⟨0,0,0,0⟩)) kn kr := by
  conv => arg 6; whnf
  conv => arg 8; whnf
  unfold lwA at *
  have hWl : (wordsOf z o ws).length = 4 := by unfold wordsOf; rw [wf_len, hw.len]
  have ei : ((i : Int) + 1).toNat = i + 1 := by omega
  have ho : [z, o].getD (Int.toNat 1) 0 = o := rfl
  have d1 := dif_text (z := z) (o := o) hw hzo.lt (i := i) (j := i + 1) (by omega) (by omega)
  obtain ⟨a1, a2⟩ := d1.lt
  obtain ⟨b1, b2⟩ := (d1.left (List.replicate 9 o)).lt
  have l1 := (word_ne (z := z) (o := o) hw (i := i) (by omega)).2
  have l2 := (word_ne (z := z) (o := o) hw (i := i + 1) (by omega)).2
  have eo : (List.replicate (Int.toNat 9) (cs (mkS [o]))).flatten = List.replicate 9 o := by rw [cs_mkS]; simp
  refine ex_forU (by decide +kernel) (fun _ _ => rfl) rfl ?_
  repeat' (first | with_reducible apply ph16 | with_reducible apply su_strL | walk_at "m_base")
  all_goals (try rw [Int.toNat_natCast])
  · omega
  · rw [hWl]; omega
  · rw [hWl]; decide
  · omega
  · rw [hWl]; omega
  · rw [hWl]; decide
  · decide
  · simp
  · simp
  · decide
  · rw [ho, len_mkS]; simp
  · decide
  · rw [ho, eo, len_mkS, len_mkS, List.length_replicate]; simp only [sizeLine]; omega
  rw [ho, eo, cs_mkS, cs_mkS]
  refine ⟨by simp, rfl, ?_⟩
  generalize (wordsOf z o ws).getD i [] = u at *
  refine un_cons ?_
  with_reducible apply xs_cons
  repeat' (first | with_reducible apply ph23 | with_reducible apply su_strL | walk_at "m_base" | (with_reducible refine And.intro ?_ ?_))
  · omega
  · rw [hWl]; omega
  · rw [hWl]; decide
  · rename_i q
    rw [ei, cs_mkS, cs_mkS, a1, a2] at q
    exact absurd rfl q
  · omega
  · rw [hWl]; omega
  · rw [hWl]; decide
  · rename_i q
    rw [ei, cs_mkS, cs_mkS, a1, a2] at q
    exact absurd rfl q
  with_reducible apply xs_cons
  repeat' (first | with_reducible apply ph23 | with_reducible apply su_strL | walk_at "m_base" | (with_reducible refine And.intro ?_ ?_))
  · omega
  · rw [hWl]; omega
  · rw [hWl]; decide
  · rename_i q
    rw [ei, cs_mkS, cs_mkS, b1, b2] at q
    exact absurd rfl q
  · omega
  · rw [hWl]; omega
  · rw [hWl]; decide
  · rename_i q
    rw [ei, cs_mkS, cs_mkS, b1, b2] at q
    exact absurd rfl q
  have := h (aS (u ++ List.replicate 9 o))
  walk_at "m_norm"
  simp only [setv_cons, setv_nil, String.reduceEq, reduceIte] at this
  exact this
theorem t_lwTail (sc cl ws : List Int) (z o : Nat) (i : Nat) (w : AV) (hi : i < 3) (kn : Loc → Prop) (kr : AV → Prop) (hw : WtOk ws) (hzo : SgOk z o)
    (h : ∀ p, kn (setv (nm "pieces") p (setv (nm "word") w ((nm "k", aI i) :: lwA sc cl ws z o)))) :
    exs (exE SS 21 true 20 (nm "texts") (fnScope (stAt 27)) 9) [(forBody (gg 27 5)).getD 1 (.Pass ⟨0,0,0,0⟩), (forBody (gg 27 5)).getD 2 (.Pass ⟨0,0,0,0⟩)] (setv (nm "word") w ((nm "k", aI i) :: lwA sc cl ws z o)) kn kr := by
  conv => arg 1; arg 6; whnf
  conv => arg 2; arg 1; whnf
  conv => arg 2; arg 2; arg 1; whnf
  unfold lwA at *
  have hWl : (wordsOf z o ws).length = 4 := by unfold wordsOf; rw [wf_len, hw.len]
  have ei : ((i : Int) + 1).toNat = i + 1 := by omega
  obtain ⟨l1, l2⟩ := word_ne (z := z) (o := o) hw (i := i) (by omega)
  obtain ⟨m1, m2⟩ := word_ne (z := z) (o := o) hw (i := i + 1) (by omega)
  have c1 : ∀ c ∈ (wordsOf z o ws).getD i [], c = z ∨ c = o := chars_words (by rw [List.getD, List.getElem?_eq_getElem (by omega)]; exact List.getElem_mem (by omega))
  have c2 : ∀ c ∈ (wordsOf z o ws).getD (i + 1) [], c = z ∨ c = o := chars_words (by rw [List.getD, List.getElem?_eq_getElem (by omega)]; exact List.getElem_mem (by omega))
  have e4 : Int.toNat 4 = 4 := rfl
  have hcat : (mkS (List.replicate (Int.toNat 4) (cs (mkS ((wordsOf z o ws).getD i [])))).flatten).length + (mkS ((wordsOf z o ws).getD (i + 1) [])).length ≤ sizeLine := by
    rw [len_mkS, len_mkS, cs_mkS, e4, List.length_flatten]
    simp only [List.map_replicate, List.sum_replicate_nat, sizeLine]
    omega
  with_reducible apply xs_cons
  repeat' (first | with_reducible apply su_strL | with_reducible apply ph0S | with_reducible apply ph27y | walk_at "m_base" | (with_reducible refine And.intro ?_ ?_))
  all_goals (try rw [Int.toNat_natCast])
  all_goals (try rw [ei])
  all_goals (try (first | omega | (rw [hWl]; omega) | (rw [hWl]; decide) | (rw [len_mkS]; omega) | exact hcat | exact l1 | exact l2 | exact m1 | exact m2))
  · simp
  have hS : isStrs (strL [(wordsOf z o ws).getD (i + 1) [], (wordsOf z o ws).getD i [], (wordsOf z o ws).getD i [], (wordsOf z o ws).getD i [], (wordsOf z o ws).getD i []] ++ [.str (Str.ofString "more")]) = true := by
    have s1 := strOk_of hzo c1
    have s2 := strOk_of hzo c2
    have s3 : PyData.strOk (Str.ofString "more") = true := by decide +kernel
    simp only [strL, List.map_cons, List.map_nil, List.cons_append, List.nil_append, isStrs, s1, s2, s3]
    rfl
  have hE : [SV.str (mkS ((wordsOf z o ws).getD (i + 1) []))] ++ List.replicate (Int.toNat 4) (.str (mkS ((wordsOf z o ws).getD i []))) ++ [.str (Str.ofString "more")] = strL [(wordsOf z o ws).getD (i + 1) [], (wordsOf z o ws).getD i [], (wordsOf z o ws).getD i [], (wordsOf z o ws).getD i [], (wordsOf z o ws).getD i []] ++ [.str (Str.ofString "more")] := rfl
  with_reducible apply xs_cons
  repeat' (first | with_reducible apply su_strL | walk_at "m_base" | (with_reducible refine And.intro ?_ ?_))
  all_goals (try rw [Int.toNat_natCast])
  all_goals (try rw [ei])
  all_goals (try (first | omega | (rw [hWl]; omega) | (rw [hWl]; decide)))
  · simp
  · simp
  · simp
  · simp
  · simp
  · show (_ || (isStrs (lwX ((wordsOf z o ws).getD i []) ((wordsOf z o ws).getD (i + 1) [])) && isStrs (lwX ((wordsOf z o ws).getD i []) ((wordsOf z o ws).getD (i + 1) [])))) = true
    rw [show isStrs (lwX ((wordsOf z o ws).getD i []) ((wordsOf z o ws).getD (i + 1) [])) = true from hS]
    simp
  · simp [strL]
  · simp
  · rename_i q
    rw [ei, Int.toNat_natCast] at q
    exact absurd hE.symm q
  · have := h (.list .shr (lwX ((wordsOf z o ws).getD i []) ((wordsOf z o ws).getD (i + 1) [])))
    walk_at "m_norm"
    simp only [setv_cons, setv_nil, String.reduceEq, reduceIte] at this
    exact this
theorem t_lwFor (sc cl ws : List Int) (z o : Nat) (kn : Loc → Prop) (kr : AV → Prop) (hw : WtOk ws) (hzo : SgOk z o) (h : kn (lwA sc cl ws z o)) :
    exE SS 21 true 20 (nm "texts") (fnScope (stAt 27)) 10 (lwA sc cl ws z o) (gg 27 5) kn kr := by
  have e1 : ∃ px p1 p2 cp, gg 27 5 = .For (.Name (nm "k") px) (.Call (.Name (nm "range") p1) [.Constant (.int 3) 0 p2] [] cp) [(forBody (gg 27 5)).getD 0 (.Pass ⟨0,0,0,0⟩), (forBody (gg 27 5)).getD 1 (.Pass ⟨0,0,0,0⟩), (forBody (gg 27 5)).getD 2 (.Pass ⟨0,0,0,0⟩)] [] (forPos (gg 27 5)) := ⟨_, _, _, _, rfl⟩
  obtain ⟨px, p1, p2, cp, e1⟩ := e1
  rw [e1]
  refine ex_for rfl (by decide +kernel) (fun _ _ => rfl) ?_
  refine ev_call rfl (by unfold lwA; simp only [look_cons, String.reduceEq, reduceIte]) (by decide) (by decide) (ev_call1 (ev_int (ev_call0 (ph1 (by decide) (by decide) ?_))))
  refine fo_go (fun _ ρ => ρ = lwA sc cl ws z o) rfl rfl (by decide) ?_ (fun i v ρ' hv hI => ?_) (fun ρ' hI => by rw [hI]; exact h)
  · unfold lwA
    walk_at "m_norm"
  · subst hI
    obtain ⟨hi, rfl⟩ := rng_get (n := 3) hv
    refine xs_cons (t_lwPair sc cl ws z o i hi _ _ hw hzo fun w => t_lwTail sc cl ws z o i w hi _ _ hw hzo fun p => ?_)
    unfold lwA
    walk_at "m_norm"
end
end
section
open PySem PySem.W PyProof.Rows PySem.Calls PyProof.V PySem.Spec PySem.SeqAt
theorem ph21 {c : Int} {k : AV → Prop} (h : k (.list .tmp ((rowOf c).map .int))) : (SS 21).φ [aI c] k := ⟨_, rfl, h⟩
theorem row_len (c : Int) : (rowOf c).length ≤ 3 := by
  have := Int.emod_lt_of_pos c (by decide : (0 : Int) < 4)
  simp [rowOf]; omega
theorem row_bd {c x : Int} (h : x ∈ rowOf c) : 0 ≤ x ∧ x ≤ 3 := by
  obtain ⟨k, _, rfl⟩ := List.mem_map.mp h
  have := Int.emod_nonneg (c / 4 ^ (k + 1)) (by decide : (4 : Int) ≠ 0)
  have := Int.emod_lt_of_pos (c / 4 ^ (k + 1)) (by decide : (0 : Int) < 4)
  omega
section
set_option maxRecDepth 10000
noncomputable def lwB (sc cl ws : List Int) (z o : Nat) (r1 r2 : List Int) : Loc := [(nm "script", .list .shr (sc.map .int)), (nm "_law_cells", .fn 20), (nm "range", .fn 1), (nm "_law_words", .fn 25), (nm "concat", .fn 16), (nm "_law_told", .fn 23), (nm "_law_pieces", .fn 27), (nm "len", .fn 0), (nm "_law_row", .fn 21), (nm "_law_read", .fn 26), (nm "_law_rank", .fn 22),
  (nm "cells", .list .shr (cl.map .int)), (nm "weights", .list .shr (ws.map .int)), (nm "signs", aS [z, o]), (nm "words", .list .shr (strL (wordsOf z o ws))), (nm "first", .list .shr (r1.map .int)), (nm "second", .list .shr (r2.map .int)), (nm "texts", .list .own [])]
theorem t_lwB (sc cl ws : List Int) (z o : Nat) (kn : Loc → Prop) (kr : AV → Prop) (hcl : cl.length = 7) (h : ∀ r1 r2, RowOk r1 → RowOk r2 → kn (lwB sc cl ws z o r1 r2)) :
    exs (exE SS 21 true 20 (nm "texts") (fnScope (stAt 27)) 10) [gg 27 6, gg 27 7, gg 27 8] (lwA sc cl ws z o) kn kr := by
  conv => arg 1; arg 6; whnf
  conv => arg 2; arg 1; whnf
  conv => arg 2; arg 2; arg 1; whnf
  conv => arg 2; arg 2; arg 2; arg 1; whnf
  unfold lwA
  with_reducible apply xs_cons
  repeat' (first | with_reducible apply ph21 | walk_at "m_base" | (with_reducible refine And.intro ?_ ?_))
  all_goals (try omega)
  have h1 : RowOk (rowOf (cl.getD (Int.toNat 4) 0)) := ⟨by have := row_len (cl.getD (Int.toNat 4) 0); omega, fun x hx => row_bd hx⟩
  have hl1 := row_len (cl.getD (Int.toNat 4) 0)
  generalize rowOf (cl.getD (Int.toNat 4) 0) = r1 at *
  have f0 : 0 ≤ (cl.getD (Int.toNat 5) 0).fmod ((r1.length : Int) + 1) := Int.fmod_nonneg_of_pos _ (by omega)
  have f1 : (cl.getD (Int.toNat 5) 0).fmod ((r1.length : Int) + 1) < (r1.length : Int) + 1 := Int.fmod_lt_of_pos _ (by omega)
  have h2 : ∀ m : Nat, RowOk (r1.take m ++ rowOf ((cl.getD (Int.toNat 5) 0).fdiv 4)) := fun m => by
    have := row_len ((cl.getD (Int.toNat 5) 0).fdiv 4)
    refine ⟨by rw [List.length_append, List.length_take]; omega, fun x hx => ?_⟩
    rcases List.mem_append.mp hx with q | q
    · exact h1.bd x (List.mem_of_mem_take q)
    · exact row_bd q
  have hl2 := row_len ((cl.getD (Int.toNat 5) 0).fdiv 4)
  with_reducible apply xs_cons
  repeat' (first | with_reducible apply ph21 | with_reducible apply ph0L | with_reducible apply sl_lto | walk_at "m_base" | (with_reducible refine And.intro ?_ ?_))
  all_goals (try rw [List.length_map])
  all_goals (try omega)
  · simp only [List.length_take, List.length_map]; omega
  · rw [← List.map_take, ← List.map_append]
    have := h2 ((cl.getD (Int.toNat 5) 0).fmod ((r1.length : Int) + 1)).toNat
    generalize r1.take ((cl.getD (Int.toNat 5) 0).fmod ((r1.length : Int) + 1)).toNat ++ rowOf ((cl.getD (Int.toNat 5) 0).fdiv 4) = r2 at *
    with_reducible apply xs_cons
    repeat' (first | walk_at "m_base" | (with_reducible refine And.intro ?_ ?_))
    · simp
    · have := h r1 r2 h1 this
      walk_at "m_norm"
      exact this
end
end
section
open PySem PySem.W PyProof.Rows PySem.Calls PyProof.V PySem.Spec PySem.SeqAt
noncomputable def DL (W : List (List Nat)) (row : List Int) : List (List Nat) := row.reverse.map fun x => W.getD x.toNat []
noncomputable def lens (l : List (List Nat)) : List Int := l.map fun w => (w.length : Int)
theorem cut_lens : ∀ l : List (List Nat), cut l.reverse.flatten (lens l) = l
  | [] => rfl
  | w :: r => by
    rw [List.reverse_cons, List.flatten_append]
    simp only [List.flatten_cons, List.flatten_nil, List.append_nil, lens, List.map_cons]
    rw [cut_app]
    congr 1
    exact cut_lens r
theorem code_DL (W : List (List Nat)) (row : List Int) : codeOf W row = (DL W row).reverse.flatten := by
  unfold DL codeOf
  rw [List.map_reverse, List.reverse_reverse, List.flatMap_def]
theorem beh_lens : ∀ (l : List (List Nat)) (last : Option Int), (∀ w ∈ l, 1 ≤ w.length ∧ w.length ≤ 9) → Beh true (lens l) last (lens l)
  | [], last, _ => .nil rfl
  | w :: r, last, h => by
    have h1 := h w List.mem_cons_self
    have a1 : (w.length : Int) ≠ 127 := by omega
    have a2 : (w.length : Int) ≠ 0 := by omega
    exact .one a1 a2 (beh_lens r _ fun x hx => h x (List.mem_cons_of_mem _ hx))
theorem beh_lens2 : ∀ (l : List (List Nat)) (last : Option Int), (∀ w ∈ l, 1 ≤ w.length ∧ w.length ≤ 9) → Beh true (lens l ++ [127, 3]) last (lens l)
  | [], last, _ => .stop rfl
  | w :: r, last, h => by
    have h1 := h w List.mem_cons_self
    have a1 : (w.length : Int) ≠ 127 := by omega
    have a2 : (w.length : Int) ≠ 0 := by omega
    exact .one a1 a2 (beh_lens2 r _ fun x hx => h x (List.mem_cons_of_mem _ hx))
theorem lens_sum (l : List (List Nat)) : (lens l).sum = (l.reverse.flatten.length : Int) := by
  rw [List.length_flatten, List.map_reverse, List.sum_reverse]
  unfold lens
  induction l with
  | nil => rfl
  | cons w r ih => simp only [List.map_cons, List.sum_cons]; omega
theorem DL_mem {ws : List Int} {z o : Nat} (hw : WtOk ws) {row : List Int} (hr : RowOk row) {w : List Nat} (h : w ∈ DL (wordsOf z o ws) row) : (1 ≤ w.length ∧ w.length ≤ 9) ∧ ∀ c ∈ w, c = z ∨ c = o := by
  obtain ⟨x, hx, rfl⟩ := List.mem_map.mp h
  have hb := hr.bd x (List.mem_reverse.mp hx)
  have hWl : (wordsOf z o ws).length = 4 := by unfold wordsOf; rw [wf_len, hw.len]
  refine ⟨word_ne hw (by omega), chars_words (ws := ws) ?_⟩
  rw [List.getD, List.getElem?_eq_getElem (by omega)]
  exact List.getElem_mem (by omega)
theorem DL_len (W : List (List Nat)) (row : List Int) : (DL W row).length = row.length := by simp [DL]
theorem code_le {ws : List Int} {z o : Nat} (hw : WtOk ws) {row : List Int} (hr : RowOk row) : (codeOf (wordsOf z o ws) row).length ≤ 54 := by
  rw [code_DL, ← Int.ofNat_le, ← lens_sum]
  have h1 := hr.len
  rw [← DL_len (wordsOf z o ws) row] at h1
  have : ∀ l : List (List Nat), (∀ w ∈ l, w.length ≤ 9) → (lens l).sum ≤ 9 * l.length := by
    intro l
    induction l with
    | nil => intro _; simp [lens]
    | cons w r ih =>
      intro h
      have h1 := h w List.mem_cons_self
      have h2 := ih fun x hx => h x (List.mem_cons_of_mem _ hx)
      simp only [lens, List.map_cons, List.sum_cons, List.length_cons] at h2 ⊢
      omega
  have := this (DL (wordsOf z o ws) row) fun w hw' => (DL_mem hw hr hw').1.2
  omega
theorem ph27g {ws : List Int} {z o : Nat} {row : List Int} (hw : WtOk ws) (hr : RowOk row) {vs : List SV} {tg : Tag} {k : AV → Prop} {n : Int} (hvs : vs = (lens (DL (wordsOf z o ws) row)).map .int ∨ vs = (lens (DL (wordsOf z o ws) row) ++ [127, 3]).map .int) (hn : n = row.length)
    (h : k (.list .tmp (strL (DL (wordsOf z o ws) row)))) : (SS 27).φ [aS (codeOf (wordsOf z o ws) row), .list tg vs, aI n] k := by
  refine ⟨_, _, _, _, rfl, ?_⟩
  have hl := DL_len (wordsOf z o ws) row
  have hr6 := hr.len
  have hll : (lens (DL (wordsOf z o ws) row)).length = row.length := by simp [lens, hl]
  have hnt : n.toNat = row.length := by omega
  have e1 : (lens (DL (wordsOf z o ws) row)).take n.toNat = lens (DL (wordsOf z o ws) row) := List.take_of_length_le (by omega)
  have hpos : ∀ x ∈ (lens (DL (wordsOf z o ws) row)).take n.toNat, 0 ≤ x := fun x hx => by
    obtain ⟨w, _, rfl⟩ := List.mem_map.mp (List.mem_of_mem_take hx)
    omega
  have hc := code_le (z := z) (o := o) hw hr
  have hsum : ((lens (DL (wordsOf z o ws) row)).take n.toNat).sum ≤ ((cs (mkS (codeOf (wordsOf z o ws) row))).length : Int) := by
    rw [e1, lens_sum, ← code_DL, cs_mkS]; exact Int.le_refl _
  have hcut : cut (cs (mkS (codeOf (wordsOf z o ws) row))) (lens (DL (wordsOf z o ws) row)) = DL (wordsOf z o ws) row := by
    rw [cs_mkS, code_DL]; exact cut_lens _
  rcases hvs with rfl | rfl
  · refine ⟨_, true, _, rfl, beh_lens _ none fun w hw' => (DL_mem hw hr hw').1, by omega, by omega, by rw [cs_mkS]; omega, hpos, hsum, .inl ⟨rfl, by omega, ?_⟩⟩
    rw [hcut]; exact h
  · refine ⟨_, true, _, rfl, beh_lens2 _ none fun w hw' => (DL_mem hw hr hw').1, by simp only [List.length_append, List.length_cons, List.length_nil]; omega, by omega, by rw [cs_mkS]; omega, hpos, hsum, .inl ⟨rfl, by omega, ?_⟩⟩
    rw [hcut]; exact h
end
section
open PySem PySem.W PyProof.Rows PySem.Calls PyProof.V PySem.Spec PySem.SeqAt
theorem ph26 {ws cl row : List Int} {z o : Nat} {t1 t2 t4 : Tag} {k : AV → Prop} (hzo : z ≠ o) (hw : WtOk ws) (hr : RowOk row) (hcl : cl.length = 7) (h : k (.list .tmp (row.map .int))) :
    (SS 26).φ [aS (codeOf (wordsOf z o ws) row), .list t1 (ws.map .int), .list t2 (strL (wordsOf z o ws)), aS [z, o], .list t4 (cl.map .int)] k :=
  ⟨_, _, _, _, _, _, _, _, rfl, row, ws, z, o, cl, hzo, cs_mkS _, rfl, rfl, rfl, rfl, hw, hr, hcl, h⟩
theorem isInts_map : ∀ l : List Int, isInts (l.map .int) = true
  | [] => rfl
  | _ :: r => isInts_map r
theorem code_snoc {W : List (List Nat)} {row : List Int} {i : Nat} {x : Int} (h : row[i]? = some x) : codeOf W (row.take (i + 1)) = codeOf W (row.take i) ++ W.getD x.toNat [] := by
  rw [take_succ_get h, code_app, code_cons]; simp [codeOf]
section
set_option maxRecDepth 10000
noncomputable abbrev gR (i : Nat) : Stmt := (forBody (gg 27 9)).getD i (.Pass ⟨0,0,0,0⟩)
noncomputable def lwR (sc cl ws : List Int) (z o : Nat) (r1 r2 : List Int) (ts : List SV) (row : List Int) (ex : Loc) : Loc := [(nm "script", .list .shr (sc.map .int)), (nm "_law_cells", .fn 20), (nm "range", .fn 1), (nm "_law_words", .fn 25), (nm "concat", .fn 16), (nm "_law_told", .fn 23), (nm "_law_pieces", .fn 27), (nm "len", .fn 0), (nm "_law_row", .fn 21), (nm "_law_read", .fn 26), (nm "_law_rank", .fn 22),
  (nm "cells", .list .shr (cl.map .int)), (nm "weights", .list .shr (ws.map .int)), (nm "signs", aS [z, o]), (nm "words", .list .shr (strL (wordsOf z o ws))), (nm "first", .list .shr (r1.map .int)), (nm "second", .list .shr (r2.map .int)), (nm "texts", .list .own ts), (nm "row", .list .shr (row.map .int))] ++ ex
theorem t_lwRow1 (sc cl ws : List Int) (z o : Nat) (r1 r2 : List Int) (ts : List SV) (row : List Int)  (kn : Loc → Prop) (kr : AV → Prop) (hcl : cl.length = 7) (hw : WtOk ws) (hzo : SgOk z o) (hr : RowOk row) (hts : ts.length ≤ 2)
    (h : ∀ d s, kn (lwR sc cl ws z o r1 r2 (ts ++ [.str (mkS (codeOf (wordsOf z o ws) row))]) row [(nm "text", aS (codeOf (wordsOf z o ws) row)), (nm "due", .list .shr d), (nm "sizes", .list .shr s)])) :
    exs (exE SS 21 true 20 (nm "texts") (fnScope (stAt 27)) 9) (forBody (gg 27 9)) (lwR sc cl ws z o r1 r2 ts row []) kn kr := by
  conv => arg 1; arg 6; whnf
  conv => arg 2; whnf
  unfold lwR at *
  simp only [List.cons_append, List.nil_append] at *
  have hWl : (wordsOf z o ws).length = 4 := by unfold wordsOf; rw [wf_len, hw.len]
  have hr6 := hr.len
  have hc54 := code_le (z := z) (o := o) hw hr
  with_reducible apply xs_cons
  repeat' (first | walk_at "m_base" | (with_reducible refine And.intro ?_ ?_))
  refine xs_cons (ex_for rfl (by decide +kernel) (fun _ _ => rfl) ?_)
  repeat' (first | walk_at "m_base")
  have e0 : Str.ofString "" = mkS [] := by decide +kernel
  refine fo_go (fun i ρ => ρ = [(nm "script", .list .shr (sc.map .int)), (nm "_law_cells", .fn 20), (nm "range", .fn 1), (nm "_law_words", .fn 25), (nm "concat", .fn 16), (nm "_law_told", .fn 23), (nm "_law_pieces", .fn 27), (nm "len", .fn 0), (nm "_law_row", .fn 21), (nm "_law_read", .fn 26), (nm "_law_rank", .fn 22),
  (nm "cells", .list .shr (cl.map .int)), (nm "weights", .list .shr (ws.map .int)), (nm "signs", aS [z, o]), (nm "words", .list .shr (strL (wordsOf z o ws))), (nm "first", .list .shr (r1.map .int)), (nm "second", .list .shr (r2.map .int)), (nm "texts", .list .own ts), (nm "row", .list .shr (row.map .int)), (nm "text", aS (codeOf (wordsOf z o ws) (row.take i)))]) rfl rfl (by simp; omega) ?_ ?_ ?_
  · walk_at "m_norm"
    rw [e0]
    rfl
  · intro i v ρ' hv hI
    subst hI
    rw [List.getElem?_map] at hv
    obtain ⟨x, hx, rfl⟩ := Option.map_eq_some_iff.mp hv
    have hxb := hr.bd x (List.mem_of_getElem? hx)
    have hxl := (word_ne (z := z) (o := o) hw (i := x.toNat) (by omega)).2
    have hci : (codeOf (wordsOf z o ws) (row.take i)).length ≤ 54 := code_le hw ⟨by rw [List.length_take]; omega, fun y hy => hr.bd y (List.mem_of_mem_take hy)⟩
    with_reducible apply xs_cons
    repeat' (first | with_reducible apply ph16 | with_reducible apply su_strL | walk_at "m_base" | (with_reducible refine And.intro ?_ ?_))
    · omega
    · rw [hWl]; omega
    · rw [hWl]; decide
    · rw [len_mkS, len_mkS]; simp only [sizeLine]; omega
    rw [cs_mkS, cs_mkS, ← code_snoc hx]
    walk_at "m_norm"
  · intro ρ' hI
    rw [List.length_map, List.take_length] at hI
    subst hI
    refine xs_cons (ex_comp (fun _ _ => rfl) (by decide +kernel) (by decide +kernel) (by decide +kernel) (by decide +kernel) (fun v => match v with | .int k => .str (mkS ((wordsOf z o ws).getD k.toNat [])) | v => v) ?_)
    repeat' (first | with_reducible apply sl_rev | walk_at "m_base")
    · simp; omega
    refine ⟨_, rfl, by simp; omega, fun v hv => ?_, ?_⟩
    · obtain ⟨x, hx, rfl⟩ := List.mem_map.mp (List.mem_reverse.mp hv)
      have hxb := hr.bd x hx
      walk_at "m_norm"
      walk_at "m_cr"
      repeat' (first | with_reducible apply su_strL | with_reducible apply xs_cons | walk_at "m_base" | (with_reducible refine And.intro ?_ ?_))
      · omega
      · rw [hWl]; omega
      · rw [hWl]; decide
      · rfl
    have e1 : ((row.map SV.int).reverse).map (fun v => match v with | .int k => SV.str (mkS ((wordsOf z o ws).getD k.toNat [])) | v => v) = strL (DL (wordsOf z o ws) row) := by
      unfold strL DL
      rw [← List.map_reverse, List.map_map, List.map_map]
      apply List.map_congr_left
      intro x _
      rfl
    rw [e1]
    have hdl := DL_len (wordsOf z o ws) row
    refine xs_cons (ex_comp (fun _ _ => rfl) (by decide +kernel) (by decide +kernel) (by decide +kernel) (by decide +kernel) (fun v => match v with | .str x => .int x.length | v => v) ?_)
    repeat' (first | walk_at "m_base")
    refine ⟨_, rfl, by simp [strL, hdl]; omega, fun v hv => ?_, ?_⟩
    · obtain ⟨x, hx, rfl⟩ := List.mem_map.mp hv
      have := (DL_mem (z := z) (o := o) hw hr hx).1
      walk_at "m_norm"
      walk_at "m_cr"
      repeat' (first | with_reducible apply ph0S | with_reducible apply xs_cons | walk_at "m_base" | (with_reducible refine And.intro ?_ ?_))
      · rw [len_mkS]; omega
      · rfl
    have e2 : (strL (DL (wordsOf z o ws) row)).map (fun v => match v with | .str x => SV.int x.length | v => v) = (lens (DL (wordsOf z o ws) row)).map .int := by
      unfold strL lens
      rw [List.map_map, List.map_map]
      apply List.map_congr_left
      intro x _
      simp [len_mkS]
    rw [e2]
    walk_at "m_norm"
    have hsl : (strL (DL (wordsOf z o ws) row)).length = row.length := by simp [strL, hdl]
    have hS : isStrs (strL (DL (wordsOf z o ws) row)) = true := isStrs_of hzo fun w hw' => (DL_mem hw hr hw').2
    have hll : (lens (DL (wordsOf z o ws) row)).length = row.length := by simp [lens, hdl]
    with_reducible apply xs_cons
    repeat' (first | with_reducible apply ph0L | with_reducible apply ph27g | walk_at "m_base" | (with_reducible refine And.intro ?_ ?_))
    all_goals (try (first | exact hw | exact hr | omega | (rw [hsl]; omega) | (rw [hsl]; done) | exact .inl rfl | exact .inr (by rw [List.map_append]; rfl) | (rw [hS]; simp; done)))
    · rename_i q; exact absurd rfl q
    · simp
    · simp; omega
    · rename_i q; exact absurd rfl q
    have hI1 := isInts_map row
    with_reducible apply xs_cons
    repeat' (first | with_reducible apply ph26 | walk_at "m_base" | (with_reducible refine And.intro ?_ ?_))
    all_goals (try (first | exact hw | exact hr | exact hcl | omega | (rw [hI1]; simp; done) | (simp; omega)))
    · have := hzo.lt; omega
    · rename_i q; exact absurd rfl q
    with_reducible apply xs_cons
    repeat' (first | walk_at "m_base" | (with_reducible refine And.intro ?_ ?_))
    · omega
    · have := h (strL (DL (wordsOf z o ws) row)) ((lens (DL (wordsOf z o ws) row)).map .int)
      walk_at "m_norm"
      exact this
theorem t_lwRow2 (sc cl ws : List Int) (z o : Nat) (r1 r2 : List Int) (ts : List SV) (row : List Int) (t : List Nat) (d s : List SV) (kn : Loc → Prop) (kr : AV → Prop) (hcl : cl.length = 7) (hw : WtOk ws) (hzo : SgOk z o) (hr : RowOk row) (hts : ts.length ≤ 2)
    (h : ∀ d s, kn (lwR sc cl ws z o r1 r2 (ts ++ [.str (mkS (codeOf (wordsOf z o ws) row))]) row [(nm "text", aS (codeOf (wordsOf z o ws) row)), (nm "due", .list .shr d), (nm "sizes", .list .shr s)])) :
    exs (exE SS 21 true 20 (nm "texts") (fnScope (stAt 27)) 9) (forBody (gg 27 9)) (lwR sc cl ws z o r1 r2 ts row [(nm "text", aS t), (nm "due", .list .shr d), (nm "sizes", .list .shr s)]) kn kr := by
  conv => arg 1; arg 6; whnf
  conv => arg 2; whnf
  unfold lwR at *
  simp only [List.cons_append, List.nil_append] at *
  have hWl : (wordsOf z o ws).length = 4 := by unfold wordsOf; rw [wf_len, hw.len]
  have hr6 := hr.len
  have hc54 := code_le (z := z) (o := o) hw hr
  with_reducible apply xs_cons
  repeat' (first | walk_at "m_base" | (with_reducible refine And.intro ?_ ?_))
  refine xs_cons (ex_for rfl (by decide +kernel) (fun _ _ => rfl) ?_)
  repeat' (first | walk_at "m_base")
  have e0 : Str.ofString "" = mkS [] := by decide +kernel
  refine fo_go (fun i ρ => ρ = [(nm "script", .list .shr (sc.map .int)), (nm "_law_cells", .fn 20), (nm "range", .fn 1), (nm "_law_words", .fn 25), (nm "concat", .fn 16), (nm "_law_told", .fn 23), (nm "_law_pieces", .fn 27), (nm "len", .fn 0), (nm "_law_row", .fn 21), (nm "_law_read", .fn 26), (nm "_law_rank", .fn 22),
  (nm "cells", .list .shr (cl.map .int)), (nm "weights", .list .shr (ws.map .int)), (nm "signs", aS [z, o]), (nm "words", .list .shr (strL (wordsOf z o ws))), (nm "first", .list .shr (r1.map .int)), (nm "second", .list .shr (r2.map .int)), (nm "texts", .list .own ts), (nm "row", .list .shr (row.map .int)), (nm "text", aS (codeOf (wordsOf z o ws) (row.take i))), (nm "due", .list .shr d), (nm "sizes", .list .shr s)]) rfl rfl (by simp; omega) ?_ ?_ ?_
  · walk_at "m_norm"
    rw [e0]
    rfl
  · intro i v ρ' hv hI
    subst hI
    rw [List.getElem?_map] at hv
    obtain ⟨x, hx, rfl⟩ := Option.map_eq_some_iff.mp hv
    have hxb := hr.bd x (List.mem_of_getElem? hx)
    have hxl := (word_ne (z := z) (o := o) hw (i := x.toNat) (by omega)).2
    have hci : (codeOf (wordsOf z o ws) (row.take i)).length ≤ 54 := code_le hw ⟨by rw [List.length_take]; omega, fun y hy => hr.bd y (List.mem_of_mem_take hy)⟩
    with_reducible apply xs_cons
    repeat' (first | with_reducible apply ph16 | with_reducible apply su_strL | walk_at "m_base" | (with_reducible refine And.intro ?_ ?_))
    · omega
    · rw [hWl]; omega
    · rw [hWl]; decide
    · rw [len_mkS, len_mkS]; simp only [sizeLine]; omega
    rw [cs_mkS, cs_mkS, ← code_snoc hx]
    walk_at "m_norm"
  · intro ρ' hI
    rw [List.length_map, List.take_length] at hI
    subst hI
    refine xs_cons (ex_comp (fun _ _ => rfl) (by decide +kernel) (by decide +kernel) (by decide +kernel) (by decide +kernel) (fun v => match v with | .int k => .str (mkS ((wordsOf z o ws).getD k.toNat [])) | v => v) ?_)
    repeat' (first | with_reducible apply sl_rev | walk_at "m_base")
    · simp; omega
    refine ⟨_, rfl, by simp; omega, fun v hv => ?_, ?_⟩
    · obtain ⟨x, hx, rfl⟩ := List.mem_map.mp (List.mem_reverse.mp hv)
      have hxb := hr.bd x hx
      walk_at "m_norm"
      walk_at "m_cr"
      repeat' (first | with_reducible apply su_strL | with_reducible apply xs_cons | walk_at "m_base" | (with_reducible refine And.intro ?_ ?_))
      · omega
      · rw [hWl]; omega
      · rw [hWl]; decide
      · rfl
    have e1 : ((row.map SV.int).reverse).map (fun v => match v with | .int k => SV.str (mkS ((wordsOf z o ws).getD k.toNat [])) | v => v) = strL (DL (wordsOf z o ws) row) := by
      unfold strL DL
      rw [← List.map_reverse, List.map_map, List.map_map]
      apply List.map_congr_left
      intro x _
      rfl
    rw [e1]
    have hdl := DL_len (wordsOf z o ws) row
    refine xs_cons (ex_comp (fun _ _ => rfl) (by decide +kernel) (by decide +kernel) (by decide +kernel) (by decide +kernel) (fun v => match v with | .str x => .int x.length | v => v) ?_)
    repeat' (first | walk_at "m_base")
    refine ⟨_, rfl, by simp [strL, hdl]; omega, fun v hv => ?_, ?_⟩
    · obtain ⟨x, hx, rfl⟩ := List.mem_map.mp hv
      have := (DL_mem (z := z) (o := o) hw hr hx).1
      walk_at "m_norm"
      walk_at "m_cr"
      repeat' (first | with_reducible apply ph0S | with_reducible apply xs_cons | walk_at "m_base" | (with_reducible refine And.intro ?_ ?_))
      · rw [len_mkS]; omega
      · rfl
    have e2 : (strL (DL (wordsOf z o ws) row)).map (fun v => match v with | .str x => SV.int x.length | v => v) = (lens (DL (wordsOf z o ws) row)).map .int := by
      unfold strL lens
      rw [List.map_map, List.map_map]
      apply List.map_congr_left
      intro x _
      simp [len_mkS]
    rw [e2]
    walk_at "m_norm"
    have hsl : (strL (DL (wordsOf z o ws) row)).length = row.length := by simp [strL, hdl]
    have hS : isStrs (strL (DL (wordsOf z o ws) row)) = true := isStrs_of hzo fun w hw' => (DL_mem hw hr hw').2
    have hll : (lens (DL (wordsOf z o ws) row)).length = row.length := by simp [lens, hdl]
    with_reducible apply xs_cons
    repeat' (first | with_reducible apply ph0L | with_reducible apply ph27g | walk_at "m_base" | (with_reducible refine And.intro ?_ ?_))
    all_goals (try (first | exact hw | exact hr | omega | (rw [hsl]; omega) | (rw [hsl]; done) | exact .inl rfl | exact .inr (by rw [List.map_append]; rfl) | (rw [hS]; simp; done)))
    · rename_i q; exact absurd rfl q
    · simp
    · simp; omega
    · rename_i q; exact absurd rfl q
    have hI1 := isInts_map row
    with_reducible apply xs_cons
    repeat' (first | with_reducible apply ph26 | walk_at "m_base" | (with_reducible refine And.intro ?_ ?_))
    all_goals (try (first | exact hw | exact hr | exact hcl | omega | (rw [hI1]; simp; done) | (simp; omega)))
    · have := hzo.lt; omega
    · rename_i q; exact absurd rfl q
    with_reducible apply xs_cons
    repeat' (first | walk_at "m_base" | (with_reducible refine And.intro ?_ ?_))
    · omega
    · have := h (strL (DL (wordsOf z o ws) row)) ((lens (DL (wordsOf z o ws) row)).map .int)
      walk_at "m_norm"
      exact this
end
end
section
open PySem PySem.W PyProof.Rows PySem.Calls PyProof.V PySem.Spec PySem.SeqAt
theorem ph22 {r : List Int} {tg : Tag} {k : AV → Prop} (hl : r.length ≤ 6) (h : k (aI (rankOf r))) : (SS 22).φ [.list tg (r.map .int)] k := ⟨_, _, rfl, r, rfl, hl, fun r' e => by rw [← ints_inj e]; exact h⟩
theorem su0 {t : Tag} {a : SV} {r : List SV} {k : AV → Prop} (h : k (.sc a)) : subE (.list t (a :: r)) (aI 0) k := SubE.list ⟨by decide, by decide, a, rfl, h⟩
theorem su1 {t : Tag} {a b : SV} {r : List SV} {k : AV → Prop} (h : k (.sc b)) : subE (.list t (a :: b :: r)) (aI 1) k := SubE.list ⟨by decide, by decide, b, rfl, h⟩
section
set_option maxRecDepth 10000
theorem e27f : ∃ px lp p1 p2, gg 27 9 = .For (.Name (nm "row") px) (.List [.Name (nm "first") p1, .Name (nm "second") p2] lp) (forBody (gg 27 9)) [] (forPos (gg 27 9)) := ⟨_, _, _, _, rfl⟩
theorem t_lwRows (sc cl ws : List Int) (z o : Nat) (r1 r2 : List Int) (kn : Loc → Prop) (kr : AV → Prop) (hcl : cl.length = 7) (hw : WtOk ws) (hzo : SgOk z o) (h1 : RowOk r1) (h2 : RowOk r2)
    (h : ∀ d s, kn (lwR sc cl ws z o r1 r2 [.str (mkS (codeOf (wordsOf z o ws) r1)), .str (mkS (codeOf (wordsOf z o ws) r2))] r2 [(nm "text", aS (codeOf (wordsOf z o ws) r2)), (nm "due", .list .shr d), (nm "sizes", .list .shr s)])) :
    exE SS 21 true 20 (nm "texts") (fnScope (stAt 27)) 10 (lwB sc cl ws z o r1 r2) (gg 27 9) kn kr := by
  obtain ⟨px, lp, p1, p2, e⟩ := e27f
  rw [e]
  refine ex_forU (by decide +kernel) (fun _ _ => rfl) rfl ?_
  refine ev_call1 (ev_name (a := .list .shr (r1.map .int)) (by unfold lwB; simp only [look_cons, String.reduceEq, reduceIte]) (ev_call1 (ev_name (a := .list .shr (r2.map .int)) (by unfold lwB; simp only [look_cons, String.reduceEq, reduceIte]) (ev_call0 ⟨by simp, rfl, ?_⟩))))
  refine un_cons ?_
  have e1 : setv (nm "row") (.list .shr (r1.map .int)) (lwB sc cl ws z o r1 r2) = lwR sc cl ws z o r1 r2 [] r1 [] := by
    unfold lwB lwR
    walk_at "m_norm"
    rfl
  rw [e1]
  refine t_lwRow1 sc cl ws z o r1 r2 [] r1 _ _ hcl hw hzo h1 (by decide) fun d s => un_cons ?_
  have e2 : setv (nm "row") (.list .shr (r2.map .int)) (lwR sc cl ws z o r1 r2 ([] ++ [.str (mkS (codeOf (wordsOf z o ws) r1))]) r1 [(nm "text", aS (codeOf (wordsOf z o ws) r1)), (nm "due", .list .shr d), (nm "sizes", .list .shr s)]) = lwR sc cl ws z o r1 r2 [.str (mkS (codeOf (wordsOf z o ws) r1))] r2 [(nm "text", aS (codeOf (wordsOf z o ws) r1)), (nm "due", .list .shr d), (nm "sizes", .list .shr s)] := by
    unfold lwR
    simp only [List.cons_append, List.nil_append]
    walk_at "m_norm"
  rw [e2]
  exact t_lwRow2 sc cl ws z o r1 r2 _ r2 _ d s _ _ hcl hw hzo h2 (by simp) fun d' s' => un_nil (h d' s')
theorem t_lwEnd (sc cl ws : List Int) (z o : Nat) (r1 r2 : List Int) (d s : List SV) (hw : WtOk ws) (hzo : SgOk z o) (h1 : RowOk r1) (h2 : RowOk r2) :
    exs (exE SS 21 true 20 (nm "texts") (fnScope (stAt 27)) 10) [gg 27 10, gg 27 11, gg 27 12] (lwR sc cl ws z o r1 r2 [.str (mkS (codeOf (wordsOf z o ws) r1)), .str (mkS (codeOf (wordsOf z o ws) r2))] r2 [(nm "text", aS (codeOf (wordsOf z o ws) r2)), (nm "due", .list .shr d), (nm "sizes", .list .shr s)]) (fun _ => False) (fun a => a = aB true) := by
  conv => arg 1; arg 6; whnf
  conv => arg 2; arg 1; whnf
  conv => arg 2; arg 2; arg 1; whnf
  conv => arg 2; arg 2; arg 2; arg 1; whnf
  have o1 := order hw hzo.lt h1 h2
  have o2 := order hw hzo.lt h2 h1
  have hl1 := h1.len
  have hl2 := h2.len
  unfold lwR
  simp only [List.cons_append, List.nil_append]
  with_reducible apply xs_cons
  repeat' (first | with_reducible apply ph22 | walk_at "m_base" | (with_reducible refine And.intro ?_ ?_))
  · exact hl1
  · exact hl2
  · simp
  with_reducible apply xs_cons
  repeat' (first | walk_at "m_base" | (with_reducible refine And.intro ?_ ?_))
  · rename_i q
    rw [if_pos q] at o1
    rw [if_pos q.symm] at o2
    with_reducible apply xs_cons
    repeat' (first | with_reducible apply ph23 | with_reducible apply su0 | with_reducible apply su1 | walk_at "m_base" | (with_reducible refine And.intro ?_ ?_))
    · rw [cs_mkS, cs_mkS, o2]
      rfl
    · rename_i q9
      rw [cs_mkS, cs_mkS] at q9
      exact absurd o1 q9
  · rename_i q q2
    rw [if_neg q, if_pos q2] at o1
    rw [if_neg (fun e => q e.symm), if_neg (by omega)] at o2
    with_reducible apply xs_cons
    repeat' (first | with_reducible apply ph23 | with_reducible apply su0 | with_reducible apply su1 | walk_at "m_base" | (with_reducible refine And.intro ?_ ?_))
    · rw [cs_mkS, cs_mkS, o2]
      rfl
    · rename_i q9
      rw [cs_mkS, cs_mkS] at q9
      exact absurd o1 q9
  · rename_i q q2
    rw [if_neg q, if_neg q2] at o1
    rw [if_neg (fun e => q e.symm), if_pos (by omega)] at o2
    with_reducible apply xs_cons
    repeat' (first | with_reducible apply ph23 | with_reducible apply su0 | with_reducible apply su1 | walk_at "m_base" | (with_reducible refine And.intro ?_ ?_))
    · rw [cs_mkS, cs_mkS, o2]
      rfl
    · rename_i q9
      rw [cs_mkS, cs_mkS] at q9
      exact absurd o1 q9
theorem exs_app {f : Loc → Stmt → (Loc → Prop) → (AV → Prop) → Prop} {kn : Loc → Prop} {kr : AV → Prop} : ∀ {a b : List Stmt} {ρ : Loc}, (exs f a ρ (fun ρ' => exs f b ρ' kn kr) kr) = exs f (a ++ b) ρ kn kr
  | [], b, ρ => rfl
  | st :: r, b, ρ => by
    show f ρ st _ _ = f ρ st _ _
    congr 1
    funext ρ'
    exact exs_app
theorem e27 : fnBody (stAt 27) = [gg 27 0, gg 27 1, gg 27 2, gg 27 3, gg 27 4] ++ (gg 27 5 :: ([gg 27 6, gg 27 7, gg 27 8] ++ (gg 27 9 :: [gg 27 10, gg 27 11, gg 27 12]))) := rfl
/-- the law's text answers True -/
theorem t_law (sc : List Int) (hl : sc.length ≤ 63) :
    exs (exE SS 21 true 20 (nm "texts") (fnScope (stAt 27)) 10) (fnBody (stAt 27)) ((nm "script", .list .shr (sc.map .int)) :: lwGlob) (fun _ => False) (fun a => a = aB true) := by
  rw [e27, ← exs_app]
  refine t_lwA sc _ _ hl fun cl ws z o hcl hw hzo => xs_cons (t_lwFor sc cl ws z o _ _ hw hzo ?_)
  rw [← exs_app]
  refine t_lwB sc cl ws z o _ _ hcl fun r1 r2 h1 h2 => xs_cons (t_lwRows sc cl ws z o r1 r2 _ _ hcl hw hzo h1 h2 fun d s => ?_)
  exact t_lwEnd sc cl ws z o r1 r2 d s hw hzo h1 h2
end
end
section
open PySem PySem.W PyProof.Rows PySem.Calls PyProof.V PySem.Spec PySem.SeqAt
structure Spot where
  tab : Addr
  pos : Pos
  q : Str
noncomputable def TOkOf (l : List Spot) (h : Heap) : Prop := ∀ x ∈ l, ∃ ps, h.get? x.tab = some (tabObj ps) ∧ (ps = #[] ∨ ∃ c', ps = #[rawInt x.pos.line, rawInt x.pos.col, .ref c'] ∧ h.CodeRec (.ref c') x.q)
theorem ps_no_str {ps : Array Value} {pos : Pos} (h : ps = #[] ∨ ∃ c', ps = #[rawInt pos.line, rawInt pos.col, .ref c']) : ∀ x t, ps[1]? ≠ some (.str x t) := by
  rintro x t e
  rcases h with rfl | ⟨c', rfl⟩
  · simp at e
  · simp [rawInt] at e
theorem tab_not_mut {ps : Array Value} : ¬ Mut (tabObj ps) := fun hm => (hm ps rfl).1 rfl
theorem TOkOf.keep2 {l : List Spot} {h h' : Heap} (t : TOkOf l h) (k : ∀ b o, h.get? b = some o → ¬ Mut o → h'.get? b = some o) : TOkOf l h' := by
  intro x hx
  obtain ⟨ps, h1, h2⟩ := t x hx
  refine ⟨ps, k _ _ h1 tab_not_mut, h2.imp id ?_⟩
  rintro ⟨c', e, c, o, vs, tt, e1, e2, e3, e4⟩
  exact ⟨c', e, c, o, vs, tt, e1, k _ _ e2 fun hm => (hm vs e3).2 _ _ e4, e3, e4⟩
/-- the world out of the law's state -/
noncomputable def mkW (prog : Program) (w : World) (tree : prog.given.tree = none) (l : List Spot) (g : Heap) (mg mb : Str → Option Value) (hg : g.Ns mainGlobals mg) (hb : g.Ns builtinsNs mb) (nl : g.NoLimit) (seer : g.NoSeer)
    (bi : ∀ x : Str, x ≠ "__name__" → mb x = bootBuiltins x) (hl : ∀ x ∈ l, g.get? x.tab = none) : Wd where
  prog := prog
  w := w
  tree := tree
  g := g
  mg := mg
  mb := mb
  tb := fun b => ∃ x ∈ l, x.tab = b
  TOk := TOkOf l
  hg := hg
  hb := hb
  nl := nl
  seer := seer
  bi := bi
  tbg := fun b o e => by
    rintro ⟨x, hx, rfl⟩
    rw [hl x hx] at e; cases e
  tin := fun h t b => by
    rintro ⟨x, hx, rfl⟩
    obtain ⟨ps, h1, _⟩ := t x hx
    exact ⟨ps, h1⟩
  tns := fun h b ps t => by
    rintro ⟨x, hx, rfl⟩ e
    obtain ⟨ps', h1, h2⟩ := t x hx
    rw [h1] at e
    cases e
    exact ps_no_str (h2.imp id fun ⟨c', e, _⟩ => ⟨c', e⟩)
  tok := fun h h' t k => t.keep2 fun b o e _ => k b o e
  tom2 := fun h h' t k => t.keep2 k
section
variable {prog : Program} {w : World} {tree : prog.given.tree = none} {l : List Spot} {g : Heap} {mg mb : Str → Option Value} {hg : g.Ns mainGlobals mg} {hb : g.Ns builtinsNs mb} {nl : g.NoLimit} {seer : g.NoSeer}
    {bi : ∀ x : Str, x ≠ "__name__" → mb x = bootBuiltins x} {hl : ∀ x ∈ l, g.get? x.tab = none}
theorem nestOk_of {x : Spot} {c : Addr} (hx : x ∈ l) (hu : ∀ y ∈ l, y.tab = x.tab → y = x) (hc : CodeHd g c x.tab)
    (hbm : ∃ bm ob, mg "__builtins__" = some (.ref bm) ∧ bm ≠ builtinsNs ∧ g.get? bm = some ob ∧ ob.cls = .type "module" ∧ ob.dict = some builtinsNs ∧ ob.data = .plain) :
    NestOk (mkW prog w tree l g mg mb hg hb nl seer bi hl) c x.tab x.pos x.q := by
  refine ⟨⟨x, hx, rfl⟩, fun h t => t x hx, fun h h' c' t e hP hr => ?_, hc, ?_⟩
  · intro y hy
    by_cases hyx : y.tab = x.tab
    · have := hu y hy hyx
      subst this
      exact ⟨_, hP, .inr ⟨c', rfl, hr⟩⟩
    · obtain ⟨ps, h1, h2⟩ := t y hy
      refine ⟨ps, e _ _ hyx h1, h2.imp id ?_⟩
      rintro ⟨c2, e2, c, o, vs, tt, f1, f2, f3, f4⟩
      refine ⟨c2, e2, c, o, vs, tt, f1, e _ _ (fun q => ?_) f2, f3, f4⟩
      subst q
      obtain ⟨ps', h3, h4⟩ := t x hx
      rw [h3] at f2
      cases f2; cases f3
      exact ps_no_str (h4.imp id fun ⟨c', e, _⟩ => ⟨c', e⟩) _ _ f4
  · obtain ⟨bm, ob, b1, b2, b3, b4, b5, b6⟩ := hbm
    refine ⟨bm, ob, b1, b2, ?_, ?_, b3, b4, b5, b6⟩
    · rintro rfl
      obtain ⟨o, es, ep, e1, e2, _⟩ := hg
      rw [b3] at e1; cases e1
      rw [b6] at e2; cases e2
    · rintro rfl
      rw [hl x hx] at b3; cases b3
end
noncomputable def fdAt (K : Frag) (a : Addr) : FuncData := match K.lookup a with
  | some ⟨_, _, .func fd, _⟩ => fd
  | _ => { name := nm "", qualname := nm "", params := { posonlyargs := [], args := [], vararg := none, kwonlyargs := [], kw_defaults := [], kwarg := none, defaults := [] }, body := .stmts [], scope := noScope, globals := 0, closure := [], defaults := .none, kwdefaults := .none, doc := .none, pyModule := .none, annotations := none, code := .none, closureTuple := .none, builtins := 0 }
noncomputable def isFn (K : Frag) (a : Addr) : Bool := match K.lookup a with
  | some ⟨_, _, .func _, _⟩ => true
  | _ => false
theorem fn_at {K : Frag} {h : Heap} {a : Addr} (X : K.In h) (e : isFn K a = true) : ∃ o, h.get? a = some o ∧ o.data = .func (fdAt K a) := by
  unfold isFn at e
  unfold fdAt
  split at e
  · rename_i c d fd sl hk
    exact ⟨_, X _ _ hk, rfl⟩
  · cases e
noncomputable def recIn (K : Frag) (cd : Value) (q : Str) : Bool := match cd with
  | .ref c => match K.lookup c with
    | some o => match o.data with
      | .fields vs => match (vs[1]? : Option Value) with
        | some (Value.str x _) => x == q
        | _ => false
      | _ => false
    | _ => false
  | _ => false
theorem rec_at {K : Frag} {h : Heap} {cd : Value} {q : Str} (X : K.In h) (e : recIn K cd q = true) : h.CodeRec cd q := by
  unfold recIn at e
  split at e
  · rename_i c
    split at e
    · rename_i hk
      split at e
      · rename_i hd
        split at e
        · rename_i hv
          have := beq_iff_eq.mp e
          subst this
          exact ⟨c, _, _, _, rfl, X _ _ hk, hd, hv⟩
        · cases e
      · cases e
    · cases e
  · cases e
theorem bind1 {fd : FuncData} {a : Str} (h : ∀ u, bindArgs fd ⟨[u], []⟩ = pure [(a, u)]) (vs : List Value) (hl : vs.length = [a].length) : bindArgs fd ⟨vs, []⟩ = pure ([a].zip vs) := by
  obtain ⟨u, vs, rfl, h1⟩ := len_cons hl
  rw [len_nil h1]; exact h u
theorem bind5 {fd : FuncData} {a b c d e : Str} (h : ∀ u v w x y, bindArgs fd ⟨[u, v, w, x, y], []⟩ = pure [(a, u), (b, v), (c, w), (d, x), (e, y)]) (vs : List Value) (hl : vs.length = [a, b, c, d, e].length) : bindArgs fd ⟨vs, []⟩ = pure ([a, b, c, d, e].zip vs) := by
  obtain ⟨u, vs, rfl, h1⟩ := len_cons hl
  obtain ⟨v, vs, rfl, h2⟩ := len_cons h1
  obtain ⟨w, vs, rfl, h3⟩ := len_cons h2
  obtain ⟨x, vs, rfl, h4⟩ := len_cons h3
  obtain ⟨y, vs, rfl, h5⟩ := len_cons h4
  rw [len_nil h5]; exact h u v w x y
theorem bind6 {fd : FuncData} {a b c d e f : Str} (h : ∀ u v w x y z, bindArgs fd ⟨[u, v, w, x, y, z], []⟩ = pure [(a, u), (b, v), (c, w), (d, x), (e, y), (f, z)]) (vs : List Value) (hl : vs.length = [a, b, c, d, e, f].length) : bindArgs fd ⟨vs, []⟩ = pure ([a, b, c, d, e, f].zip vs) := by
  obtain ⟨u, vs, rfl, h1⟩ := len_cons hl
  obtain ⟨v, vs, rfl, h2⟩ := len_cons h1
  obtain ⟨w, vs, rfl, h3⟩ := len_cons h2
  obtain ⟨x, vs, rfl, h4⟩ := len_cons h3
  obtain ⟨y, vs, rfl, h5⟩ := len_cons h4
  obtain ⟨z, vs, rfl, h6⟩ := len_cons h5
  rw [len_nil h6]; exact h u v w x y z
end
section
set_option maxRecDepth 100000
open PySem PySem.W PyProof.Rows PySem.Calls
noncomputable abbrev vS (n : String) (t : Nat) : Value := .str (Str.ofString n) t
noncomputable def oT (l : List (String × Nat)) : Obj := { cls := .type "tuple", data := .seq (l.map fun x => vS x.1 x.2).toArray }
noncomputable def oTv (l : List Value) : Obj := { cls := .type "tuple", data := .seq l.toArray }
noncomputable def oN (l : List Value) : Obj := { cls := .none, data := .fields l.toArray }
noncomputable def oD (n : Nat) (P : Params) (l : List (String × Nat × Value)) : Obj := { cls := .type "dict", data := .dict (l.map fun x => (⟨PyData.keyHash P (Str.ofString x.1), vS x.1 x.2.1, x.2.2⟩ : DictEntry)).toArray n }
noncomputable def oC (n : String) (t : Nat) (ln ac fl : Int) (a : Addr) (b : Bool) (x y z : Value) (e : Nat) : Obj := { cls := .type "code", data := .fields #[vS n t, vS n (t + 1), vS "/claim/cut.py" (t + 2), .int ln 0, .int ac 0, .int 0 0, .int 0 0, .int fl 0, .ref a, .bool b, .int 181 0, .ref (a + 1), .none, x, y, z, .int e 0, .int ln 0, vS "/claim/cut.py" (e + 1)] }
noncomputable def oF (i : Nat) (c : Value) (g : Addr) (d m cd : Value) : Obj := { cls := c, data := .func { name := fnName (stAt i), qualname := fnName (stAt i), params := fnParams (stAt i), body := .stmts (fnBody (stAt i)), scope := fnScope (stAt i), globals := g, closure := [], defaults := d, kwdefaults := .none, pyModule := m, code := cd } }
noncomputable def oFr : Obj := { cls := .type "frame", slots := #[some (.ref 13), some (.ref 3), some (.ref 3), none, some (vS "__main__" 164), none, some (.ref 0)] }
noncomputable def obA (P : Params) : List Obj := [boot_o_0 P, boot_o_1 P, boot_o_2 P, boot_o_3 P, boot_o_4 P, boot_o_5 P, boot_o_6 P, boot_o_7 P, boot_o_8 P, boot_o_9 P, boot_o_10 P, oT [], oN [], oC "<module>" 182 1 0 0 11 false .none .none .none 185, oFr]
noncomputable def obB (P : Params) : List Obj := [
  boot_o_0 P,
  boot_o_1 P,
  boot_o_2 P,
  oD 33 P [("__name__", 165, (vS "law_xi0014_01" 335)), ("__doc__", 166, .none), ("__package__", 167, .none), ("__loader__", 168, (.builtin "__main__.__loader__#opaque")), ("__spec__", 169, .none), ("__annotations__", 170, (.ref 6)), ("__builtins__", 171, (.ref 4)), ("__file__", 173, (vS "/claim/cut.py" 172)), ("__cached__", 174, .none), ("_strcoll", 196, (.ref 21)), ("CHAR_MAX", 198, (.int 127 197)), ("_grouping_intervals", 207, (.ref 28)), ("_DIV_LIMIT", 211, (.int 4000 210)), ("_div2n1n", 228, (.ref 35)), ("_div3n2n", 242, (.ref 42)), ("_int2digits", 253, (.ref 49)), ("_digits2int", 264, (.ref 56)), ("_divmod_pos", 279, (.ref 63)), ("add", 289, (.ref 70)), ("mul", 297, (.ref 77)), ("concat", 306, (.ref 84)), ("length_hint", 318, (.ref 92)), ("ifloordiv", 326, (.ref 99)), ("isub", 334, (.ref 106)), ("_law_cells", 345, (.ref 113)), ("_law_row", 351, (.ref 118)), ("_law_rank", 360, (.ref 125)), ("_law_told", 369, (.ref 132)), ("_law_part", 385, (.ref 139)), ("_law_words", 391, (.ref 144)), ("_law_read", 397, (.ref 149)), ("_law_pieces", 408, (.ref 156)), ("law", 414, (.ref 161))],
  boot_o_4 P,
  boot_o_5 P,
  boot_o_6 P,
  boot_o_7 P,
  boot_o_8 P,
  boot_o_9 P,
  boot_o_10 P,
  oT [],
  oN [(.int 2 0), (.int 0 0), (.ref 20), (.int 5 0), (.int 0 0), (.ref 27), (.int 19 0), (.int 0 0), (.ref 34), (.int 35 0), (.int 0 0), (.ref 41), (.int 45 0), (.int 0 0), (.ref 48), (.int 61 0), (.int 0 0), (.ref 55), (.int 70 0), (.int 0 0), (.ref 62), (.int 82 0), (.int 0 0), (.ref 69), (.int 84 0), (.int 0 0), (.ref 76), (.int 86 0), (.int 0 0), (.ref 83), (.int 91 0), (.int 0 0), (.ref 91), (.int 116 0), (.int 0 0), (.ref 98), (.int 119 0), (.int 0 0), (.ref 105), (.int 123 0), (.int 0 0), (.ref 112), (.int 128 0), (.int 0 0), (.ref 117), (.int 130 0), (.int 0 0), (.ref 124), (.int 135 0), (.int 0 0), (.ref 131), (.int 138 0), (.int 0 0), (.ref 138), (.int 145 0), (.int 0 0), (.ref 143), (.int 158 0), (.int 0 0), (.ref 148), (.int 171 0), (.int 0 0), (.ref 155), (.int 179 0), (.int 0 0), (.ref 160)],
  oC "<module>" 182 1 0 0 11 false .none .none .none 185,
  oFr,
  oT [],
  oN [],
  oT [("a", 192), ("b", 193)],
  oT [],
  oF 1 .none 0 .none .none .none,
  oC "_strcoll" 189 2 2 3 15 true (.ref 17) (.ref 18) (.ref 19) 194,
  oF 1 (.type "function") 3 .none (vS "cpy313.locale" 187) (.ref 20),
  oT [],
  oN [],
  oT [("grouping", 202), ("last_interval", 203), ("interval", 204)],
  oT [],
  oF 3 .none 0 .none .none .none,
  oC "_grouping_intervals" 199 5 1 35 22 true (.ref 24) (.ref 25) (.ref 26) 205,
  oF 3 (.type "function") 3 .none (vS "cpy313.locale" 187) (.ref 27),
  oT [],
  oN [],
  oT [("a", 215), ("b", 216), ("n", 217), ("pad", 218), ("half_n", 219), ("mask", 220), ("b1", 221), ("b2", 222), ("q1", 223), ("r", 224), ("q2", 225)],
  oT [],
  oF 6 .none 0 .none .none .none,
  oC "_div2n1n" 212 19 3 3 29 true (.ref 31) (.ref 32) (.ref 33) 226,
  oF 6 (.type "function") 3 .none (vS "cpy313._pylong" 208) (.ref 34),
  oT [],
  oN [],
  oT [("a12", 232), ("a3", 233), ("b", 234), ("b1", 235), ("b2", 236), ("n", 237), ("q", 238), ("r", 239)],
  oT [],
  oF 7 .none 0 .none .none .none,
  oC "_div3n2n" 229 35 6 3 36 true (.ref 38) (.ref 39) (.ref 40) 240,
  oF 7 (.type "function") 3 .none (vS "cpy313._pylong" 208) (.ref 41),
  oT [],
  oN [],
  oT [("a", 246), ("n", 247)],
  oT [("n", 248), ("a_digits", 249), ("inner", 250)],
  oF 8 .none 0 .none .none .none,
  oC "_int2digits" 243 45 2 3 43 true (.ref 45) (.ref 46) (.ref 47) 251,
  oF 8 (.type "function") 3 .none (vS "cpy313._pylong" 208) (.ref 48),
  oT [],
  oN [],
  oT [("digits", 257), ("n", 258)],
  oT [("digits", 259), ("n", 260), ("inner", 261)],
  oF 9 .none 0 .none .none .none,
  oC "_digits2int" 254 61 2 3 50 true (.ref 52) (.ref 53) (.ref 54) 262,
  oF 9 (.type "function") 3 .none (vS "cpy313._pylong" 208) (.ref 55),
  oT [],
  oN [],
  oT [("a", 268), ("b", 269), ("n", 270), ("a_digits", 271), ("r", 272), ("q_digits", 273), ("a_digit", 274), ("q_digit", 275), ("q", 276)],
  oT [],
  oF 10 .none 0 .none .none .none,
  oC "_divmod_pos" 265 70 2 3 57 true (.ref 59) (.ref 60) (.ref 61) 277,
  oF 10 (.type "function") 3 .none (vS "cpy313._pylong" 208) (.ref 62),
  oT [],
  oN [],
  oT [("a", 285), ("b", 286)],
  oT [],
  oF 12 .none 0 .none .none .none,
  oC "add" 282 82 2 3 64 true (.ref 66) (.ref 67) (.ref 68) 287,
  oF 12 (.type "function") 3 .none (vS "cpy313.operator" 280) (.ref 69),
  oT [],
  oN [],
  oT [("a", 293), ("b", 294)],
  oT [],
  oF 13 .none 0 .none .none .none,
  oC "mul" 290 84 2 3 71 true (.ref 73) (.ref 74) (.ref 75) 295,
  oF 13 (.type "function") 3 .none (vS "cpy313.operator" 280) (.ref 76),
  oT [],
  oN [],
  oT [("a", 301), ("b", 302), ("msg", 303)],
  oT [],
  oF 14 .none 0 .none .none .none,
  oC "concat" 298 86 2 3 78 true (.ref 80) (.ref 81) (.ref 82) 304,
  oF 14 (.type "function") 3 .none (vS "cpy313.operator" 280) (.ref 83),
  oTv [(.int 0 307)],
  oT [],
  oN [],
  oT [("obj", 311), ("default", 312), ("msg", 313), ("hint", 314), ("val", 315)],
  oT [],
  oF 15 .none 0 .none .none .none,
  oC "length_hint" 308 91 2 3 86 true (.ref 88) (.ref 89) (.ref 90) 316,
  oF 15 (.type "function") 3 (.ref 85) (vS "cpy313.operator" 280) (.ref 91),
  oT [],
  oN [],
  oT [("a", 322), ("b", 323)],
  oT [],
  oF 16 .none 0 .none .none .none,
  oC "ifloordiv" 319 116 2 3 93 true (.ref 95) (.ref 96) (.ref 97) 324,
  oF 16 (.type "function") 3 .none (vS "cpy313.operator" 280) (.ref 98),
  oT [],
  oN [],
  oT [("a", 330), ("b", 331)],
  oT [],
  oF 17 .none 0 .none .none .none,
  oC "isub" 327 119 2 3 100 true (.ref 102) (.ref 103) (.ref 104) 332,
  oF 17 (.type "function") 3 .none (vS "cpy313.operator" 280) (.ref 105),
  oT [],
  oN [],
  oT [("script", 340), ("cells", 341), ("k", 342)],
  oT [],
  oF 19 .none 0 .none .none .none,
  oC "_law_cells" 337 123 1 3 107 true (.ref 109) (.ref 110) (.ref 111) 343,
  oF 19 (.type "function") 3 .none (vS "law_xi0014_01" 335) (.ref 112),
  oT [],
  oN [],
  oF 20 .none 0 .none .none .none,
  oC "_law_row" 346 128 1 3 114 true .none .none (.ref 116) 349,
  oF 20 (.type "function") 3 .none (vS "law_xi0014_01" 335) (.ref 117),
  oT [],
  oN [],
  oT [("row", 355), ("rank", 356), ("k", 357)],
  oT [],
  oF 21 .none 0 .none .none .none,
  oC "_law_rank" 352 130 1 3 119 true (.ref 121) (.ref 122) (.ref 123) 358,
  oF 21 (.type "function") 3 .none (vS "law_xi0014_01" 335) (.ref 124),
  oT [],
  oN [],
  oT [("text", 364), ("other", 365), ("told", 366)],
  oT [],
  oF 22 .none 0 .none .none .none,
  oC "_law_told" 361 135 2 3 126 true (.ref 128) (.ref 129) (.ref 130) 367,
  oF 22 (.type "function") 3 .none (vS "law_xi0014_01" 335) (.ref 131),
  oT [],
  oN [],
  oT [("upper", 373), ("lower", 374), ("cells", 375), ("unit", 376), ("far", 377), ("near", 378), ("whole", 379), ("rest", 380), ("part", 381), ("due", 382)],
  oT [],
  oF 23 .none 0 .none .none .none,
  oC "_law_part" 370 138 3 3 133 true (.ref 135) (.ref 136) (.ref 137) 383,
  oF 23 (.type "function") 3 .none (vS "law_xi0014_01" 335) (.ref 138),
  oT [],
  oN [],
  oF 24 .none 0 .none .none .none,
  oC "_law_words" 386 145 3 3 140 true .none .none (.ref 142) 389,
  oF 24 (.type "function") 3 .none (vS "law_xi0014_01" 335) (.ref 143),
  oT [],
  oN [],
  oF 25 .none 0 .none .none .none,
  oC "_law_read" 392 158 5 3 145 true .none .none (.ref 147) 395,
  oF 25 (.type "function") 3 .none (vS "law_xi0014_01" 335) (.ref 148),
  oT [],
  oN [],
  oT [("text", 401), ("sizes", 402), ("many", 403), ("pieces", 404), ("size", 405)],
  oT [],
  oF 26 .none 0 .none .none .none,
  oC "_law_pieces" 398 171 3 3 150 true (.ref 152) (.ref 153) (.ref 154) 406,
  oF 26 (.type "function") 3 .none (vS "law_xi0014_01" 335) (.ref 155),
  oT [],
  oN [],
  oF 27 .none 0 .none .none .none,
  oC "law" 409 179 1 3 157 true .none .none (.ref 159) 412,
  oF 27 (.type "function") 3 .none (vS "law_xi0014_01" 335) (.ref 160)]
noncomputable def hpA (P : Params) : Heap := Heap.mk (Array.mk (obA P)) {}
noncomputable def hpB (P : Params) : Heap := Heap.mk (Array.mk (obB P)) {}
noncomputable def btOf : Nat → List Obj → Nat → Nat → BT
  | 0, _, _, _ => .nil
  | f + 1, l, a, b => match l[b]? with
    | some o => .node o (btOf f l (2 * a) (a + b)) (btOf f l (2 * a) (2 * a + b))
    | none => .nil
noncomputable def btA (P : Params) : BT := btOf 5 (obA P) 1 0
noncomputable def btB (P : Params) : BT := btOf 9 (obB P) 1 0
noncomputable abbrev rwL : OpenLaw := PySem.Challenge.rw_xi0014_01
noncomputable abbrev rwP : Program := rwL.row.toRowW.prog
noncomputable def rwE : Env := { scope := rwP.main.scope, locals := mainNs, globals := mainNs, cells := [], code := .ref 13, frame := some 14 }
noncomputable abbrev rwB : List Stmt := behindTheImports rwP
noncomputable abbrev rwC : Code := .body rwB rwE
noncomputable abbrev ps0 : Pos := ⟨0, 0, 0, 0⟩
noncomputable abbrev ps1 : Pos := ⟨179, 0, 209, 96⟩
noncomputable abbrev an0 : Option Value := some (.ref 6)
theorem hd_pre : ∀ w : World, (fun os => topGo treeTable rwP w 11 an0 12 ⟨boot_heap w.params, Array.mk [], boot_drawn, boot_toks, os⟩ (topStub rwP)) = fun os => some (⟨hpA w.params, Array.mk [], {}, 187, os⟩, ⟨denote treeTable rwC, rwC, ps0, [topFrame ps0]⟩) := by
  rw [PySem.W.Fast.te15667345088766844465, PySem.W.Fast.te11892475500146522536, PySem.W.Fast.te14364793385576792824]
  intro w; kernel_rfl
theorem hd_block : ∀ w : World, (fun os => segRun treeTable rwP w 11 an0 1 1 ⟨hpA w.params, Array.mk [], {}, 187, os⟩ (blockOf rwB rwE rwC ps0 [topFrame ps0])) = fun os => some (Flow.next, (SharedT.mk (btA w.params) 15 {} (Array.mk []) {} 187 os).abs, rwC, ps0) := by
  rw [PySem.W.Fast.te14374325043358763698, PySem.W.Fast.te14364793385576792824]
  intro w; kernel_rfl
theorem hd_run : ∀ w : World, (fun os => segRunT treeTable rwP w 11 an0 1 749 (SharedT.mk (btA w.params) 15 {} (Array.mk []) {} 187 os) (piecesOf rwB rwE rwC ps0 [topFrame ps0])) = fun os => some (Flow.next, SharedT.mk (btB w.params) 162 {} (Array.mk []) {} 415 os, rwC, ps1) := by
  rw [PySem.W.Fast.te10110043849684766642, PySem.W.Fast.te14364793385576792824]
  intro w; kernel_rfl
theorem hd_fin : ∀ w : World, (fun os => topRun treeTable rwP w 11 an0 2 (SharedT.mk (btB w.params) 162 {} (Array.mk []) {} 415 os).abs ⟨doneF .next, rwC, ps1, [topFrame ps0]⟩) = fun os => some ⟨hpB w.params, Array.mk [], {}, 415, os⟩ := by
  rw [PySem.W.Fast.te14082659384304107361, PySem.W.Fast.te14364793385576792824]
  intro w; kernel_rfl
end
section
set_option maxRecDepth 100000
open PySem PySem.W PyProof.Rows PySem.Calls
noncomputable def qv : Program := { rwP with main := { rwP.main with body := [1, 2, 3, 5, 6, 7, 8, 9, 10, 12, 13, 14, 16, 17, 19, 20, 21, 22, 23, 24, 25, 26, 27].map stAt } }
noncomputable abbrev lo1 : List Str := [Str.ofString "length_hint"]
noncomputable def kAs : List Addr := [3, 20, 21, 27, 28, 34, 35, 41, 42, 48, 49, 55, 56, 62, 63, 69, 70, 76, 77, 83, 84, 85, 91, 92, 98, 99, 105, 106, 112, 113, 117, 118, 124, 125, 131, 132, 138, 139, 143, 144, 148, 149, 155, 156, 160, 161]
noncomputable def KH (P : Params) : Frag := kAs.map fun a => (a, (obB P).getD a oFr)
theorem kAs_eq (P : Params) : kAs = (KH P).map (·.1) := by kernel_rfl
noncomputable abbrev hk1 : Hook := kmHook KH kAs kAs_eq [51, 44]
noncomputable abbrev xt1 (s : Shared) : Bool := xlAt qv [] s && recOk rwL.row.records s
theorem hd_size : ∀ w : World, ((boot_heap w.params).isNs mainGlobals && (Array.mk [] : Array GenState).size == 0, (boot_heap w.params).objs.size, (boot_heap w.params).nsMap mainGlobals "__annotations__") = (true, 11, an0) := by
  rw [PySem.W.Fast.te8920871248978507458]
  intro w; kernel_rfl
theorem hd_looks : ∀ w : World, (fun os => ((staticsOk (importedModules rwP.main.body) (boot_heap w.params) (hpB w.params) && namesBound rwP (hpB w.params) && gensDone ⟨hpB w.params, Array.mk [], {}, 415, os⟩ && laidKept (boot_heap w.params) (hpB w.params)),
    openSeen qv lo1 (importedModules rwP.main.body) xt1 true ⟨hpB w.params, Array.mk [], {}, 415, os⟩, hk1.obs ⟨hpB w.params, Array.mk [], {}, 415, os⟩)) = fun _ => (true, openGood qv lo1, hk1.val w) := by
  rw [PySem.W.Fast.te4187177175401517315]
  intro w; kernel_rfl
theorem hd_left : LeftO rwP qv lo1 xt1 hk1.obs hk1.val 1620 :=
  LeftO.of_pieces (boot_open (by kernel_rfl) (by decide) (fun s => by kernel_rfl)) hd_size
    (fun w os => go_top (congrFun (hd_pre w) os) (piece_block (congrFun (hd_block w) os) (by rw [← List.append_nil rwB]; exact piece_app (segRun_of (congrFun (hd_run w) os)) (piece_nil (congrFun (hd_fin w) os))))) (by decide) hd_looks
end
section
set_option maxRecDepth 100000
open PySem PySem.W PyProof.Rows PySem.Calls
noncomputable def dLaw : DefRec := { name := Str.ofString "law", params := fnParams (stAt 27), body := fnBody (stAt 27), scope := fnScope (stAt 27), pos := ps1 }
theorem hd_said : rwL.wellSaid = true := by
  rw [PySem.W.Fast.te9446332074065402090]
  kernel_rfl
theorem hd_def : defOf qv rwL.row.name = some (dLaw, []) := by kernel_rfl
theorem hd_the : rwL.row.prog.theDef rwL.row.name = some (dLaw.params, dLaw.body, dLaw.scope) := by kernel_rfl
theorem hd_kw : kwWritten? dLaw.params.kwonlyargs dLaw.params.kw_defaults = some [] := by kernel_rfl
theorem hd_wr : (!rwL.row.writes || rwL.row.records.isEmpty) = true := by kernel_rfl
theorem hd_ok : (chainsOk qv && opensWell rwL.row.prog && (frees rwL.row.toRowW && rwL.row.within.isEmpty)) = true := by kernel_rfl
theorem hd_bare : rwL.row.prog.bare := ⟨rfl, rfl, rfl, rfl, rfl, by kernel_rfl⟩
theorem hd_wit : rwL.row.toRowW.promised := ⟨[WData.list []], by kernel_rfl, by kernel_rfl⟩
theorem head (walk : WalkO qv lo1 (XL qv []) hk1.says rwL.row.toRowW dLaw [] (fun f vs => PySem.call f vs)) : rwL.Holds :=
  holds_law hd_said fun _ => holds_open (r := rwL.row) hd_left hk1.of hk1.keeps (fun s e => xl_of s (Bool.and_eq_true_iff.mp e).1) XL.keeps hd_def hd_the hd_kw (fun s e => recFacts_of (Bool.and_eq_true_iff.mp e).2) hd_wr (row_said hd_said) hd_ok hd_bare hd_wit walk
end
section
open PySem PySem.W PyProof.Rows PySem.Calls PyProof.V PySem.Spec PySem.SeqAt
section
set_option maxRecDepth 100000
variable {W : Wd} {p : Params}
theorem tf_1 (X : (KH p).In W.g) : TopFn W 1 21 (fdAt (KH p) 21) [nm "a", nm "b"] :=
  ⟨⟨fn_at X (by kernel_rfl), by kernel_rfl, by kernel_rfl, by kernel_rfl, by kernel_rfl, rec_at X (by kernel_rfl), by kernel_rfl⟩, bind2 fun u v => by kernel_rfl⟩
theorem mg_1 {mg : Str → Option Value} {g : Heap} (X : (KH p).In g) (G : g.Ns mainGlobals mg) : mg (nm "_strcoll") = some (.ref 21) := mg_of X G (by kernel_rfl)
theorem tf_6 (X : (KH p).In W.g) : TopFn W 6 35 (fdAt (KH p) 35) [nm "a", nm "b", nm "n"] :=
  ⟨⟨fn_at X (by kernel_rfl), by kernel_rfl, by kernel_rfl, by kernel_rfl, by kernel_rfl, rec_at X (by kernel_rfl), by kernel_rfl⟩, bind3 fun u v w => by kernel_rfl⟩
theorem mg_6 {mg : Str → Option Value} {g : Heap} (X : (KH p).In g) (G : g.Ns mainGlobals mg) : mg (nm "_div2n1n") = some (.ref 35) := mg_of X G (by kernel_rfl)
theorem tf_7 (X : (KH p).In W.g) : TopFn W 7 42 (fdAt (KH p) 42) [nm "a12", nm "a3", nm "b", nm "b1", nm "b2", nm "n"] :=
  ⟨⟨fn_at X (by kernel_rfl), by kernel_rfl, by kernel_rfl, by kernel_rfl, by kernel_rfl, rec_at X (by kernel_rfl), by kernel_rfl⟩, bind6 fun u v w x y z => by kernel_rfl⟩
theorem mg_7 {mg : Str → Option Value} {g : Heap} (X : (KH p).In g) (G : g.Ns mainGlobals mg) : mg (nm "_div3n2n") = some (.ref 42) := mg_of X G (by kernel_rfl)
theorem tf_8 (X : (KH p).In W.g) : TopFn W 8 49 (fdAt (KH p) 49) [nm "a", nm "n"] :=
  ⟨⟨fn_at X (by kernel_rfl), by kernel_rfl, by kernel_rfl, by kernel_rfl, by kernel_rfl, rec_at X (by kernel_rfl), by kernel_rfl⟩, bind2 fun u v => by kernel_rfl⟩
theorem mg_8 {mg : Str → Option Value} {g : Heap} (X : (KH p).In g) (G : g.Ns mainGlobals mg) : mg (nm "_int2digits") = some (.ref 49) := mg_of X G (by kernel_rfl)
theorem tf_9 (X : (KH p).In W.g) : TopFn W 9 56 (fdAt (KH p) 56) [nm "digits", nm "n"] :=
  ⟨⟨fn_at X (by kernel_rfl), by kernel_rfl, by kernel_rfl, by kernel_rfl, by kernel_rfl, rec_at X (by kernel_rfl), by kernel_rfl⟩, bind2 fun u v => by kernel_rfl⟩
theorem mg_9 {mg : Str → Option Value} {g : Heap} (X : (KH p).In g) (G : g.Ns mainGlobals mg) : mg (nm "_digits2int") = some (.ref 56) := mg_of X G (by kernel_rfl)
theorem tf_10 (X : (KH p).In W.g) : TopFn W 10 63 (fdAt (KH p) 63) [nm "a", nm "b"] :=
  ⟨⟨fn_at X (by kernel_rfl), by kernel_rfl, by kernel_rfl, by kernel_rfl, by kernel_rfl, rec_at X (by kernel_rfl), by kernel_rfl⟩, bind2 fun u v => by kernel_rfl⟩
theorem mg_10 {mg : Str → Option Value} {g : Heap} (X : (KH p).In g) (G : g.Ns mainGlobals mg) : mg (nm "_divmod_pos") = some (.ref 63) := mg_of X G (by kernel_rfl)
theorem tf_12 (X : (KH p).In W.g) : TopFn W 12 70 (fdAt (KH p) 70) [nm "a", nm "b"] :=
  ⟨⟨fn_at X (by kernel_rfl), by kernel_rfl, by kernel_rfl, by kernel_rfl, by kernel_rfl, rec_at X (by kernel_rfl), by kernel_rfl⟩, bind2 fun u v => by kernel_rfl⟩
theorem mg_12 {mg : Str → Option Value} {g : Heap} (X : (KH p).In g) (G : g.Ns mainGlobals mg) : mg (nm "add") = some (.ref 70) := mg_of X G (by kernel_rfl)
theorem tf_13 (X : (KH p).In W.g) : TopFn W 13 77 (fdAt (KH p) 77) [nm "a", nm "b"] :=
  ⟨⟨fn_at X (by kernel_rfl), by kernel_rfl, by kernel_rfl, by kernel_rfl, by kernel_rfl, rec_at X (by kernel_rfl), by kernel_rfl⟩, bind2 fun u v => by kernel_rfl⟩
theorem mg_13 {mg : Str → Option Value} {g : Heap} (X : (KH p).In g) (G : g.Ns mainGlobals mg) : mg (nm "mul") = some (.ref 77) := mg_of X G (by kernel_rfl)
theorem tf_14 (X : (KH p).In W.g) : TopFn W 14 84 (fdAt (KH p) 84) [nm "a", nm "b"] :=
  ⟨⟨fn_at X (by kernel_rfl), by kernel_rfl, by kernel_rfl, by kernel_rfl, by kernel_rfl, rec_at X (by kernel_rfl), by kernel_rfl⟩, bind2 fun u v => by kernel_rfl⟩
theorem mg_14 {mg : Str → Option Value} {g : Heap} (X : (KH p).In g) (G : g.Ns mainGlobals mg) : mg (nm "concat") = some (.ref 84) := mg_of X G (by kernel_rfl)
theorem tf_15 (X : (KH p).In W.g) : TopFn0 W 15 92 (fdAt (KH p) 92) :=
  ⟨fn_at X (by kernel_rfl), by kernel_rfl, by kernel_rfl, by kernel_rfl, by kernel_rfl, rec_at X (by kernel_rfl), by kernel_rfl⟩
theorem mg_15 {mg : Str → Option Value} {g : Heap} (X : (KH p).In g) (G : g.Ns mainGlobals mg) : mg (nm "length_hint") = some (.ref 92) := mg_of X G (by kernel_rfl)
theorem tf_16 (X : (KH p).In W.g) : TopFn W 16 99 (fdAt (KH p) 99) [nm "a", nm "b"] :=
  ⟨⟨fn_at X (by kernel_rfl), by kernel_rfl, by kernel_rfl, by kernel_rfl, by kernel_rfl, rec_at X (by kernel_rfl), by kernel_rfl⟩, bind2 fun u v => by kernel_rfl⟩
theorem mg_16 {mg : Str → Option Value} {g : Heap} (X : (KH p).In g) (G : g.Ns mainGlobals mg) : mg (nm "ifloordiv") = some (.ref 99) := mg_of X G (by kernel_rfl)
theorem tf_17 (X : (KH p).In W.g) : TopFn W 17 106 (fdAt (KH p) 106) [nm "a", nm "b"] :=
  ⟨⟨fn_at X (by kernel_rfl), by kernel_rfl, by kernel_rfl, by kernel_rfl, by kernel_rfl, rec_at X (by kernel_rfl), by kernel_rfl⟩, bind2 fun u v => by kernel_rfl⟩
theorem mg_17 {mg : Str → Option Value} {g : Heap} (X : (KH p).In g) (G : g.Ns mainGlobals mg) : mg (nm "isub") = some (.ref 106) := mg_of X G (by kernel_rfl)
theorem tf_19 (X : (KH p).In W.g) : TopFn W 19 113 (fdAt (KH p) 113) [nm "script"] :=
  ⟨⟨fn_at X (by kernel_rfl), by kernel_rfl, by kernel_rfl, by kernel_rfl, by kernel_rfl, rec_at X (by kernel_rfl), by kernel_rfl⟩, bind1 fun u => by kernel_rfl⟩
theorem mg_19 {mg : Str → Option Value} {g : Heap} (X : (KH p).In g) (G : g.Ns mainGlobals mg) : mg (nm "_law_cells") = some (.ref 113) := mg_of X G (by kernel_rfl)
theorem tf_20 (X : (KH p).In W.g) : TopFn W 20 118 (fdAt (KH p) 118) [nm "cell"] :=
  ⟨⟨fn_at X (by kernel_rfl), by kernel_rfl, by kernel_rfl, by kernel_rfl, by kernel_rfl, rec_at X (by kernel_rfl), by kernel_rfl⟩, bind1 fun u => by kernel_rfl⟩
theorem mg_20 {mg : Str → Option Value} {g : Heap} (X : (KH p).In g) (G : g.Ns mainGlobals mg) : mg (nm "_law_row") = some (.ref 118) := mg_of X G (by kernel_rfl)
theorem tf_21 (X : (KH p).In W.g) : TopFn W 21 125 (fdAt (KH p) 125) [nm "row"] :=
  ⟨⟨fn_at X (by kernel_rfl), by kernel_rfl, by kernel_rfl, by kernel_rfl, by kernel_rfl, rec_at X (by kernel_rfl), by kernel_rfl⟩, bind1 fun u => by kernel_rfl⟩
theorem mg_21 {mg : Str → Option Value} {g : Heap} (X : (KH p).In g) (G : g.Ns mainGlobals mg) : mg (nm "_law_rank") = some (.ref 125) := mg_of X G (by kernel_rfl)
theorem tf_22 (X : (KH p).In W.g) : TopFn W 22 132 (fdAt (KH p) 132) [nm "text", nm "other"] :=
  ⟨⟨fn_at X (by kernel_rfl), by kernel_rfl, by kernel_rfl, by kernel_rfl, by kernel_rfl, rec_at X (by kernel_rfl), by kernel_rfl⟩, bind2 fun u v => by kernel_rfl⟩
theorem mg_22 {mg : Str → Option Value} {g : Heap} (X : (KH p).In g) (G : g.Ns mainGlobals mg) : mg (nm "_law_told") = some (.ref 132) := mg_of X G (by kernel_rfl)
theorem tf_23 (X : (KH p).In W.g) : TopFn W 23 139 (fdAt (KH p) 139) [nm "upper", nm "lower", nm "cells"] :=
  ⟨⟨fn_at X (by kernel_rfl), by kernel_rfl, by kernel_rfl, by kernel_rfl, by kernel_rfl, rec_at X (by kernel_rfl), by kernel_rfl⟩, bind3 fun u v w => by kernel_rfl⟩
theorem mg_23 {mg : Str → Option Value} {g : Heap} (X : (KH p).In g) (G : g.Ns mainGlobals mg) : mg (nm "_law_part") = some (.ref 139) := mg_of X G (by kernel_rfl)
theorem tf_24 (X : (KH p).In W.g) : TopFn W 24 144 (fdAt (KH p) 144) [nm "weights", nm "signs", nm "cells"] :=
  ⟨⟨fn_at X (by kernel_rfl), by kernel_rfl, by kernel_rfl, by kernel_rfl, by kernel_rfl, rec_at X (by kernel_rfl), by kernel_rfl⟩, bind3 fun u v w => by kernel_rfl⟩
theorem mg_24 {mg : Str → Option Value} {g : Heap} (X : (KH p).In g) (G : g.Ns mainGlobals mg) : mg (nm "_law_words") = some (.ref 144) := mg_of X G (by kernel_rfl)
theorem tf_25 (X : (KH p).In W.g) : TopFn W 25 149 (fdAt (KH p) 149) [nm "text", nm "weights", nm "words", nm "signs", nm "cells"] :=
  ⟨⟨fn_at X (by kernel_rfl), by kernel_rfl, by kernel_rfl, by kernel_rfl, by kernel_rfl, rec_at X (by kernel_rfl), by kernel_rfl⟩, bind5 fun u v w x y => by kernel_rfl⟩
theorem mg_25 {mg : Str → Option Value} {g : Heap} (X : (KH p).In g) (G : g.Ns mainGlobals mg) : mg (nm "_law_read") = some (.ref 149) := mg_of X G (by kernel_rfl)
theorem tf_26 (X : (KH p).In W.g) : TopFn W 26 156 (fdAt (KH p) 156) [nm "text", nm "sizes", nm "many"] :=
  ⟨⟨fn_at X (by kernel_rfl), by kernel_rfl, by kernel_rfl, by kernel_rfl, by kernel_rfl, rec_at X (by kernel_rfl), by kernel_rfl⟩, bind3 fun u v w => by kernel_rfl⟩
theorem mg_26 {mg : Str → Option Value} {g : Heap} (X : (KH p).In g) (G : g.Ns mainGlobals mg) : mg (nm "_law_pieces") = some (.ref 156) := mg_of X G (by kernel_rfl)
theorem tf_27 (X : (KH p).In W.g) : TopFn W 27 161 (fdAt (KH p) 161) [nm "script"] :=
  ⟨⟨fn_at X (by kernel_rfl), by kernel_rfl, by kernel_rfl, by kernel_rfl, by kernel_rfl, rec_at X (by kernel_rfl), by kernel_rfl⟩, bind1 fun u => by kernel_rfl⟩
theorem mg_27 {mg : Str → Option Value} {g : Heap} (X : (KH p).In g) (G : g.Ns mainGlobals mg) : mg (nm "law") = some (.ref 161) := mg_of X G (by kernel_rfl)
theorem mn_len {mg : Str → Option Value} {g : Heap} (X : (KH p).In g) (G : g.Ns mainGlobals mg) : mg (nm "len") = none := mg_none_of X G (by kernel_rfl)
theorem mn_range {mg : Str → Option Value} {g : Heap} (X : (KH p).In g) (G : g.Ns mainGlobals mg) : mg (nm "range") = none := mg_none_of X G (by kernel_rfl)
theorem mn_max {mg : Str → Option Value} {g : Heap} (X : (KH p).In g) (G : g.Ns mainGlobals mg) : mg (nm "max") = none := mg_none_of X G (by kernel_rfl)
theorem mn_sum {mg : Str → Option Value} {g : Heap} (X : (KH p).In g) (G : g.Ns mainGlobals mg) : mg (nm "sum") = none := mg_none_of X G (by kernel_rfl)
theorem mn_isinstance {mg : Str → Option Value} {g : Heap} (X : (KH p).In g) (G : g.Ns mainGlobals mg) : mg (nm "isinstance") = none := mg_none_of X G (by kernel_rfl)
theorem mn_hasattr {mg : Str → Option Value} {g : Heap} (X : (KH p).In g) (G : g.Ns mainGlobals mg) : mg (nm "hasattr") = none := mg_none_of X G (by kernel_rfl)
theorem mn_divmod {mg : Str → Option Value} {g : Heap} (X : (KH p).In g) (G : g.Ns mainGlobals mg) : mg (nm "divmod") = none := mg_none_of X G (by kernel_rfl)
theorem mn_int {mg : Str → Option Value} {g : Heap} (X : (KH p).In g) (G : g.Ns mainGlobals mg) : mg (nm "int") = none := mg_none_of X G (by kernel_rfl)
theorem mn_bool {mg : Str → Option Value} {g : Heap} (X : (KH p).In g) (G : g.Ns mainGlobals mg) : mg (nm "bool") = none := mg_none_of X G (by kernel_rfl)
theorem mn_reversed {mg : Str → Option Value} {g : Heap} (X : (KH p).In g) (G : g.Ns mainGlobals mg) : mg (nm "reversed") = none := mg_none_of X G (by kernel_rfl)
theorem mi_lim {mg : Str → Option Value} {g : Heap} (X : (KH p).In g) (G : g.Ns mainGlobals mg) : mg (nm "_DIV_LIMIT") = some (.int 4000 210) := mg_of X G (by kernel_rfl)
theorem mi_max {mg : Str → Option Value} {g : Heap} (X : (KH p).In g) (G : g.Ns mainGlobals mg) : mg (nm "CHAR_MAX") = some (.int 127 197) := mg_of X G (by kernel_rfl)
theorem mg_3 {mg : Str → Option Value} {g : Heap} (X : (KH p).In g) (G : g.Ns mainGlobals mg) : mg (nm "_grouping_intervals") = some (.ref 28) := mg_of X G (by kernel_rfl)
end
end
section
open PySem PySem.W PyProof.Rows PySem.Calls PyProof.V PySem.Spec PySem.SeqAt
section
set_option maxRecDepth 100000
variable {W : Wd} {p : Params}
theorem gen_fn (X : (KH p).In W.g) : GenFn W (nm "_grouping_intervals") 28 (fdAt (KH p) 28) := by
  have hs : (fdAt (KH p) 28).scope = fnScope (stAt 3) := by kernel_rfl
  refine ⟨mg_3 X W.hg, fn_at X (by kernel_rfl), by kernel_rfl, by kernel_rfl, by kernel_rfl, by kernel_rfl, by kernel_rfl, by kernel_rfl, by kernel_rfl, rec_at X (by kernel_rfl), ?_, ?_, ?_, ?_, ?_, fun v => by kernel_rfl, ⟨_, mi_max X W.hg⟩⟩
  all_goals rw [hs]
  all_goals decide +kernel
theorem lh_bind (X : (KH p).In W.g) : ∃ t, ∀ (s : Shared) (v : Value), GW W s.heap → BindsTo s (fdAt (KH p) 92) ⟨[v], []⟩ [(nm "obj", v), (nm "default", .int 0 t)] := by
  refine ⟨307, fun s v G => ?_⟩
  have e : (KH p).lookup 85 = some { cls := .type "tuple", data := .seq #[.int 0 307] } := by kernel_rfl
  exact BindsTo.of_defaults (T := 85) (items := #[.int 0 307]) (by kernel_rfl) (G.keep _ _ (X _ _ e)) rfl rfl (by kernel_rfl)
theorem all_fns (X : (KH p).In W.g) (N8 : NestOk W 48 44 (defPos (nestSt 8 1)) ((fdAt (KH p) 49).qualname ++ (".<locals>." : Str) ++ nm "inner")) (N9 : NestOk W 55 51 (defPos (nestSt 9 0)) ((fdAt (KH p) 56).qualname ++ (".<locals>." : Str) ++ nm "inner")) : GlobOk W SS (fnScope (stAt 27)) lwGlob := by
  have G := W.hg
  have f7 := ok_coll (tf_1 X)
  have f8 := ok_divS (tf_6 X) (.bi (by decide +kernel) (mn_divmod X G) (by kernel_rfl) ok_divmod (.int (by decide +kernel) (mi_lim X G) .nil))
  have f9 := ok_d3 (tf_7 X) (.fn (by decide +kernel) (mg_6 X G) f8 .nil)
  have f10 := ok_divB (tf_6 X) (.bi (by decide +kernel) (mn_divmod X G) (by kernel_rfl) ok_divmod (.int (by decide +kernel) (mi_lim X G) (.fn (by decide +kernel) (mg_7 X G) f9 .nil)))
  have f11 := ok_i2d (tf_8 X) (.bi (by decide +kernel) (mn_len X G) (by kernel_rfl) ok_len .nil) (by kernel_rfl) N8
  have f12 := ok_d2i (tf_9 X) (.bi (by decide +kernel) (mn_len X G) (by kernel_rfl) ok_len .nil) (by kernel_rfl) N9
  have f13 := ok_dm (tf_10 X) (.fn (by decide +kernel) (mg_8 X G) f11 (.ty (by decide +kernel) (mn_reversed X G) (by kernel_rfl) (.fn (by decide +kernel) (mg_6 X G) f10 (.fn (by decide +kernel) (mg_9 X G) f12 .nil))))
  have f14 := ok_add (tf_12 X)
  have f15 := ok_mul (tf_13 X)
  have f16 := ok_concat (tf_14 X) (.bi (by decide +kernel) (mn_hasattr X G) (by kernel_rfl) ok_has .nil)
  obtain ⟨t, hb⟩ := lh_bind X
  have f17 := ok_lh (tf_15 X) hb (.bi (by decide +kernel) (mn_isinstance X G) (by kernel_rfl) ok_isi (.ty (by decide +kernel) (mn_int X G) (by kernel_rfl) (.bi (by decide +kernel) (mn_len X G) (by kernel_rfl) ok_len .nil)))
  have f18 := ok_fd (tf_16 X)
  have f19 := ok_sub (tf_17 X)
  have f20 := ok_cells (tf_19 X) (.bi (by decide +kernel) (mn_range X G) (by kernel_rfl) ok_range (.bi (by decide +kernel) (mn_len X G) (by kernel_rfl) ok_len .nil))
  have f21 := ok_row (tf_20 X) (.bi (by decide +kernel) (mn_range X G) (by kernel_rfl) ok_range .nil)
  have f22 := ok_rank (tf_21 X) (.bi (by decide +kernel) (mn_range X G) (by kernel_rfl) ok_range (.bi (by decide +kernel) (mn_len X G) (by kernel_rfl) ok_len .nil))
  have f23 := ok_told (tf_22 X) (.fn (by decide +kernel) (mg_1 X G) f7 (.bi (by decide +kernel) (mn_isinstance X G) (by kernel_rfl) ok_isi (.ty (by decide +kernel) (mn_int X G) (by kernel_rfl) (.ty (by decide +kernel) (mn_bool X G) (by kernel_rfl) .nil))))
  have f24 := ok_part (tf_23 X) (.fn (by decide +kernel) (mg_10 X G) f13 (.fn (by decide +kernel) (mg_12 X G) f14 (.fn (by decide +kernel) (mg_13 X G) f15 (.fn (by decide +kernel) (mg_17 X G) f19 .nil))))
  have f25 := ok_words (tf_24 X) (.bi (by decide +kernel) (mn_sum X G) (by kernel_rfl) ok_sum (.fn (by decide +kernel) (mg_8 X G) f11 (.fn (by decide +kernel) (mg_10 X G) f13 (.fn (by decide +kernel) (mg_15 X G) f17 (.fn (by decide +kernel) (mg_17 X G) f19 (.fn (by decide +kernel) (mg_16 X G) f18 (.fn (by decide +kernel) (mg_23 X G) f24 (.fn (by decide +kernel) (mg_12 X G) f14 (.bi (by decide +kernel) (mn_range X G) (by kernel_rfl) ok_range .nil)))))))))
  have f26 := ok_read (tf_25 X) (.bi (by decide +kernel) (mn_max X G) (by kernel_rfl) ok_max (.bi (by decide +kernel) (mn_len X G) (by kernel_rfl) ok_len (.fn (by decide +kernel) (mg_9 X G) f12 (.bi (by decide +kernel) (mn_range X G) (by kernel_rfl) ok_range (.fn (by decide +kernel) (mg_23 X G) f24 (.bi (by decide +kernel) (mn_sum X G) (by kernel_rfl) ok_sum (.fn (by decide +kernel) (mg_17 X G) f19 .nil)))))))
  have f27 := ok_pieces (tf_26 X) (.bi (by decide +kernel) (mn_len X G) (by kernel_rfl) ok_len .nil) (gen_fn X)
  exact .fn (by decide +kernel) (mg_19 X G) f20 (.bi (by decide +kernel) (mn_range X G) (by kernel_rfl) ok_range (.fn (by decide +kernel) (mg_24 X G) f25 (.fn (by decide +kernel) (mg_14 X G) f16 (.fn (by decide +kernel) (mg_22 X G) f23 (.fn (by decide +kernel) (mg_26 X G) f27 (.bi (by decide +kernel) (mn_len X G) (by kernel_rfl) ok_len (.fn (by decide +kernel) (mg_20 X G) f21 (.fn (by decide +kernel) (mg_25 X G) f26 (.fn (by decide +kernel) (mg_21 X G) f22 .nil)))))))))
end
end
section
open PySem PySem.W PyProof.Rows PySem.Calls PyProof.V PySem.Spec PySem.SeqAt
set_option maxRecDepth 10000 in
theorem law_entry {W : Wd} {f : Addr} {fd : FuncData} (T : TopFn W 27 f fd [nm "script"]) (GL : GlobOk W SS (fnScope (stAt 27)) lwGlob) {s : Shared} (G : GW W s.heap) {l : Addr} {sc : List Int} (hl : LRep s.heap l (sc.map .int)) (h63 : sc.length ≤ 63) {R : Result → Shared → Prop}
    (hend : ∀ s', ExtU W s s' → GW W s'.heap → R (.ok (.ret (.bool true))) s') : codeAny (model W.prog W.w) callerA (.call (.ref f) ⟨[.ref l], []⟩) R s := by
  have D := T.defOk (by decide +kernel) GL
  have har : AReps s.heap [Value.ref l] [AV.list .shr (sc.map .int)] := .cons ⟨l, rfl, hl⟩ .nil
  have hargs : ([AV.list .shr (sc.map .int)]).all argOk = true := rfl
  obtain ⟨o, hf, hd⟩ := D.at'
  refine codeAny_call_function (by simp only [callerA, claimMargin, recursionLimit]; omega) (G.keep _ _ hf) hd D.co D.gen D.body' (D.code.keeps G.keep) ?_
  refine BindsTo.of_eq (T.bind [.ref l] rfl) _ _ _ _ ?_
  rw [D.clo]
  have hzip : ∀ y ∈ [nm "script"].zip [Value.ref l], y.1 ∈ [nm "script"] := fun y hy => (List.of_mem_zip hy).1
  refine wpAny_newFunctionEnv_cells D.kind (fun y hy => ((D.par y.1 (hzip y hy)).2).imp id fun q => ⟨q.1, q.2 _⟩) fun env he s₁ x => ?_
  refine ⟨G.nl.keeps x.toInCall.keep, codeAny_func ?_⟩
  have hsc : env.scope = fd.scope := by rw [he]; rfl
  have hco : ∀ y, env.kindOf y = fd.scope.names.lookup y := fun y => by rw [he]; rfl
  have hcells : env.cells = cellsFrom (s.heap.objs.size + 1) fd.scope.names [] := by rw [he]; rfl
  have hloc : env.locals = s.heap.objs.size := by rw [he]; rfl
  have hgl : env.globals = mainGlobals := by rw [he]; exact D.gl
  have hbu : env.builtins = builtinsNs := by rw [he]; exact D.bu
  have K : EnvOk env := by
    refine ⟨by rw [hsc]; exact D.kind, hgl, hbu, fun y hy => ?_⟩
    rw [hco] at hy
    rw [hcells]
    exact Option.isSome_iff_exists.mp (D.cel y hy _)
  have keep : Keeps s s₁ := by
    obtain ⟨h', tk, e, k'⟩ := x.done
    exact ⟨h', tk, e, k'⟩
  have e1 : Ex W true s s₁ := .of_keeps keep
  have G1 : GW W s₁.heap := G.ext e1.ext
  have hnodup : (env.cells.map (·.1)).Nodup := by
    rw [hcells]
    exact (cellsFrom_names fd.scope.names 0 (s.heap.objs.size + 1) [] [] rfl) ▸ D.cnd
  have F : FS W SS true env none (entry [nm "script"] [AV.list .shr (sc.map .int)] ++ lwGlob) s s₁ := by
    refine ⟨⟨G1, fun y b hy => ?_, fun l hl => nomatch hl⟩, G.keep, e1, ⟨_, x.toInCall.ns⟩, by rw [hloc]; exact Heap.get?_none_of_le (Nat.le_refl _), fun y hy => ?_, ?_, fun l hl => nomatch hl⟩
    · rw [look_append] at hy
      cases hq : look y (entry [nm "script"] [AV.list .shr (sc.map .int)]) with
      | some b' =>
        rw [hq] at hy
        simp only [Option.some_or, Option.some.injEq] at hy
        subst hy
        have har' : AReps s₁.heap [Value.ref l] [AV.list .shr (sc.map .int)] := har.ext G.tok e1.ext
        obtain ⟨v, hm, vr⟩ := entry_look (F := Fk W SS) har' hargs hq
        have hyx : y ∈ [nm "script"] := hzip _ hm
        have hnd' : (([nm "script"].zip [Value.ref l]).map (·.1)).Nodup := by
          rw [List.map_fst_zip (by simp)]; exact D.nd
        obtain ⟨hdb, hp⟩ := D.par y hyx
        refine ⟨v, ⟨hdb, ?_⟩, vr⟩
        rcases hp with hp | ⟨hp, hp2⟩
        · have hk : env.kindOf y = some .local := by rw [hco]; exact hp
          exact .inl ⟨hk, _, x.toInCall.ns, bindL_get _ _ _ _ hnd' hm hk⟩
        · have hk : env.kindOf y = some .cell := by rw [hco]; exact hp
          obtain ⟨c, hc⟩ := Option.isSome_iff_exists.mp (hp2 (s.heap.objs.size + 1))
          rw [← hcells] at hc
          refine .inr (.inl ⟨hk, c, hc, ?_⟩)
          have := x.cell y c hc
          rwa [bindC_get _ _ _ _ hnd' hm (by rw [hk]; decide)] at this
      | none =>
        rw [hq] at hy
        simp only [Option.none_or] at hy
        obtain ⟨hdb, v, hk, hv, vr⟩ := D.gk y b hy
        have hk' : env.kindOf y = some .globalImplicit := by rw [hco]; exact hk
        refine ⟨v, ⟨hdb, ?_⟩, vr _⟩
        rcases hv with hv | ⟨h1, h2, h3⟩
        · exact .inr (.inr (.inr (.inl ⟨hk', hv⟩)))
        · exact .inr (.inr (.inr (.inr ⟨hk', h1, h2, h3⟩)))
    · rw [hco] at hy
      obtain ⟨c, hc⟩ := Option.isSome_iff_exists.mp (D.cel y hy (s.heap.objs.size + 1))
      rw [← hcells] at hc
      refine ⟨c, _, hc, x.cell y c hc, Heap.get?_none_of_le ?_⟩
      have := x.above y c (Mine.mem_of_lookup hc)
      rw [hloc] at this
      exact Nat.le_of_lt this
    · intro y z c h1 h2
      exact PySem.name_of_addr x.apart (Mine.mem_of_lookup h1) (Mine.mem_of_lookup h2)
  have hRm : Room (callerA.deeper env) 21 := ⟨rfl, ⟨env, [], rfl, by rw [hsc]; exact D.gen, by rw [hsc]; exact D.co, hbu, hgl⟩, by simp only [callerA, claimMargin, Around.deeper]; omega, by simp only [callerA, Around.deeper]; omega⟩
  refine wpAny_mono (exs_sound (kn := fun _ => False) (kr := fun a => a = aB true) (Q := fun fl s' => match fl with | .ret v => R (.ok (.ret v)) s' | _ => False) (ex_all W SS 21 20 true (nm "texts") (fnScope (stAt 27)) 10) hRm K (fun y kd hy => by rw [hco, T.sc]; exact kindIn_iff.mp hy) (fun v s' own' ρ' a F' ra ka => ?_) (fnBody (stAt 27)) _ none s₁ (fun fl s' => match fl with | .ret v => R (.ok (.ret v)) s' | _ => False) F (t_law sc h63) (fun _ _ _ _ q => q.elim) fun _ _ q => q) (fun fl s' q => ?_) fun _ _ q => q
  · subst ka
    cases ra
    exact hend s' F'.ex.ext F'.rs.gw
  · cases fl with
    | ret v => exact q
    | _ => exact q.elim
end
section
open PySem PySem.W PyProof.Rows PySem.Calls PyProof.V PySem.Spec PySem.SeqAt
theorem post_true {M : Model} {A : Around} {cd : Code} {s s₁ : Shared} {cw : ClaimW} {cl : Str → Option Addr} {mean : ExcName → Option Value} {args : List WData} {tabs : List (Addr × Addr)} (hT : TabsAt tabs s₁.heap) (hr : ∀ a x, cw.raises a x = false) (hp : cw.post args (.bool true) args = true)
    (h : codeAny M A cd (fun r s' => r = .ok (.ret (.bool true)) ∧ (∀ b o, (ghostOf s₁.heap tabs).get? b = some o → s'.heap.get? b = some o) ∧ GrownAll tabs s'.heap ∧ s'.os = s₁.os ∧ AllBare s'.gens) s) : codeAny M A cd (GoodWG cw cl mean args s₁) s :=
  codeAny_mono h fun r s' ⟨hr', hk, hgr, hos, hg⟩ => by
    refine ⟨.inl ⟨.bool true, .bool true, [], hr', hr args, .bool true, hp, fun _ => ⟨List.nodup_nil, nofun⟩⟩, ⟨fun b o e => ?_, fun b o e => ?_⟩, hos, hg⟩
    · by_cases hb : b ∈ tabs.map (·.2)
      · obtain ⟨q, hq, rfl⟩ := List.mem_map.mp hb
        obtain ⟨e1, e2⟩ := hT q hq
        obtain ⟨ps, hP⟩ := hgr.get q hq
        rw [e] at e2
        cases e2
        exact .inr (.inl ⟨(e1.tab e).isCodeTable, rfl, #[], ps, rfl, by rw [Array.empty_append]; exact hP⟩)
      · exact .inl (hk b o (ghost_ne e hb))
    · by_cases hb : b ∈ tabs.map (·.2)
      · obtain ⟨q, hq, rfl⟩ := List.mem_map.mp hb
        obtain ⟨ps, hP⟩ := hgr.get q hq
        exact ⟨_, hP⟩
      · exact ⟨o, hk b o (ghost_ne e hb)⟩
theorem ghost_seer {h₁ : Heap} {tabs : List (Addr × Addr)} (hT : TabsAt tabs h₁) (x : h₁.NoSeer) : (ghostOf h₁ tabs).NoSeer where
  statics := let ⟨mc, a, b⟩ := x.statics; ⟨mc, ghost_ns hT a, b⟩
  mods := let ⟨mm, a, b⟩ := x.mods; ⟨mm, ghost_ns hT a, b⟩
  imp := let ⟨mb, a, b⟩ := x.imp; ⟨mb, ghost_ns hT a, b⟩
  main := let ⟨mg, bm, ob, a, b, c, d, e⟩ := x.main; ⟨mg, bm, ob, ghost_ns hT a, b, ghost_get hT c (fun q => by rw [q] at d; cases d), d, e⟩
theorem well_ints {P : Params} {h : Heap} : ∀ {ws : List Int} {vs : List Value}, WellAll P h vs (ofPys (ws.map .int)) → Reps vs (ws.map .int)
  | [], _, .nil => .nil
  | i :: r, _, .cons h1 h2 => by
    cases h1
    exact .cons (.int i _) (well_ints h2)
theorem well_list {P : Params} {h : Heap} {l : Addr} {ws : List Int} (x : Well P h (.ref l) (ofPy (.list (ws.map .int)))) : LRep h l (ws.map .int) := by
  cases x with
  | list e a => exact ⟨_, ⟨_, e⟩, well_ints a⟩
section
set_option maxRecDepth 100000
noncomputable def spots (p : Params) : List Spot := [⟨51, defPos (nestSt 9 0), (fdAt (KH p) 56).qualname ++ (".<locals>." : Str) ++ nm "inner"⟩, ⟨44, defPos (nestSt 8 1), (fdAt (KH p) 49).qualname ++ (".<locals>." : Str) ++ nm "inner"⟩]
theorem law_join {prog : Program} (tree : prog.given.tree = none) {pr : Program} {w : World} {s₁ : Shared} {mg mb : Str → Option Value} {loose : List Str} {mean : ExcName → Option Value} {fa : Addr} (X : (KH w.params).In s₁.heap) (hs : s₁.heap.NoSeer) (T : Top pr loose mean mg mb s₁.heap)
    (hT : TabsAt [(55, 51), (48, 44)] s₁.heap) (hmg : mg (nm "law") = some (.ref fa)) (hg : s₁.gens = #[]) {l : Addr} {ws : List Int} (hw : Well w.params s₁.heap (.ref l) (ofPy (.list (ws.map .int)))) (h63 : ws.length ≤ 63) :
    codeAny (model prog w) callerA (.call (.ref fa) ⟨[.ref l], []⟩) (fun r s' => r = .ok (.ret (.bool true)) ∧ (∀ b o, (ghostOf s₁.heap [(55, 51), (48, 44)]).get? b = some o → s'.heap.get? b = some o) ∧ GrownAll [(55, 51), (48, 44)] s'.heap ∧ s'.os = s₁.os ∧ AllBare s'.gens) s₁ := by
  have X' := ghost_K hT X (by kernel_rfl)
  have T' := ghost_top hT T
  have seer : (ghostOf s₁.heap [(55, 51), (48, 44)]).NoSeer := ghost_seer hT hs
  have C' := ghost_code hT
  have hfa : fa = 161 := by
    have := mg_27 X T.g
    rw [hmg] at this; cases this; rfl
  subst hfa
  have hgl : ∀ x ∈ spots w.params, (ghostOf s₁.heap [(55, 51), (48, 44)]).get? x.tab = none := fun x hx => by
    rcases List.mem_cons.mp hx with rfl | hx
    · exact hideAll_none _ (by simp)
    · rw [List.mem_singleton] at hx
      subst hx
      exact hideAll_none _ (by simp)
  let W : Wd := mkW prog w tree (spots w.params) (ghostOf s₁.heap [(55, 51), (48, 44)]) mg mb T'.g T'.b T'.nolimit seer T'.builtins hgl
  have hbm := T'.bmain
  have hu9 : ∀ y ∈ spots w.params, y.tab = 51 → y = (spots w.params).getD 0 ⟨0, ⟨0,0,0,0⟩, nm ""⟩ := fun y hy e => by
    rcases List.mem_cons.mp hy with rfl | hy
    · rfl
    · rw [List.mem_singleton] at hy; subst hy; cases e
  have hu8 : ∀ y ∈ spots w.params, y.tab = 44 → y = (spots w.params).getD 1 ⟨0, ⟨0,0,0,0⟩, nm ""⟩ := fun y hy e => by
    rcases List.mem_cons.mp hy with rfl | hy
    · cases e
    · rw [List.mem_singleton] at hy; subst hy; rfl
  have N9 : NestOk W 55 51 (defPos (nestSt 9 0)) ((fdAt (KH w.params) 56).qualname ++ (".<locals>." : Str) ++ nm "inner") :=
    nestOk_of (x := ⟨51, defPos (nestSt 9 0), (fdAt (KH w.params) 56).qualname ++ (".<locals>." : Str) ++ nm "inner"⟩) (List.mem_cons_self) (fun y hy e => hu9 y hy e) C'.1 hbm
  have N8 : NestOk W 48 44 (defPos (nestSt 8 1)) ((fdAt (KH w.params) 49).qualname ++ (".<locals>." : Str) ++ nm "inner") :=
    nestOk_of (x := ⟨44, defPos (nestSt 8 1), (fdAt (KH w.params) 49).qualname ++ (".<locals>." : Str) ++ nm "inner"⟩) (List.mem_cons_of_mem _ (List.mem_cons_self)) (fun y hy e => hu8 y hy e) C'.2.1 hbm
  have GL := all_fns (W := W) (p := w.params) X' N8 N9
  have tok : TOkOf (spots w.params) s₁.heap := fun x hx => by
    rcases List.mem_cons.mp hx with rfl | hx
    · exact ⟨#[], (hT (55, 51) (by simp)).2, .inl rfl⟩
    · rw [List.mem_singleton] at hx
      subst hx
      exact ⟨#[], (hT (48, 44) (by simp)).2, .inl rfl⟩
  have gw : GW W s₁.heap := ⟨fun b o e => of_hideAll _ e, tok⟩
  refine law_entry (W := W) (tf_27 X') GL gw (well_list hw) h63 fun s' e' g' => ⟨rfl, g'.keep, ?_, e'.os, e'.bare (by rw [hg]; simp)⟩
  obtain ⟨ps1, h1, _⟩ := g'.tok _ (List.mem_cons_self)
  obtain ⟨ps2, h2, _⟩ := g'.tok _ (List.mem_cons_of_mem _ (List.mem_cons_self))
  exact ⟨⟨ps1, h1⟩, ⟨ps2, h2⟩, trivial⟩
end
end
end Mine
open PySem PySem.W PyProof.Rows PySem.Calls
set_option maxRecDepth 100000 in
set_option maxHeartbeats 8000000 in
theorem PySem.Challenge.cw_xi0014_01_holds : PySem.Challenge.rw_xi0014_01.Holds := by
  exact Mine.head (by w_strict (
  intro w s₀ s₁ mg mb G Y fa o pm cd doc dV kV ho hd' hcd hD hmg hg args vals as hpre hlay hrd hwl hlo
  have KX := km_in_of Y
  have hT8 := km_tabs_of Y
  have X := (Ground.X G).1
  have V := (Ground.X G).2
  refine Ground.open G ?_
  intro T B D TE TW
  try (refine guard_noD D (by decide +kernel) ?_; clear D)
  have hT9 : TabsAt [(55, 51), (48, 44)] s₁.heap := List.forall_mem_cons.mpr ⟨⟨codeHd_of_K (c := 55) (P := 51) KX (by kernel_rfl), hT8 51 (by k_mem)⟩, List.forall_mem_cons.mpr ⟨⟨codeHd_of_K (c := 48) (P := 44) KX (by kernel_rfl), hT8 44 (by k_mem)⟩, fun _ h => nomatch h⟩⟩
  wrow_args hpre hlay hrd hwl hlo
  all_goals (
    first | refine callC_kw (enter_call ?_) | refine enter_call ?_
    w_top on
    refine Mine.post_true hT9 (fun _ _ => rfl) ?hp ?_
    case hp => kernel_rfl
    exact Mine.law_join (by kernel_rfl) (by assumption) (T.seer (by kernel_rfl)) T hT9 hmg hg (by assumption) (by omega))))

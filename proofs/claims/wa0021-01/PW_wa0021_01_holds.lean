import PyProof.Rows.All
import OpenK.KExp
import KE.KCallOwn
import KE.KLam
import KE.KSortKey
import KE.KMulAny
import KE.KPar
import KE.KTops
import Wide.FinOn
import OpenK.AllK
import Wide.All
import Lean
import PySem.Challenge.RW_wa0021_01
open PySem PySem.W PyProof.Rows PySem.Calls
set_option Elab.async false
set_option maxRecDepth 100000
set_option linter.unusedVariables false
set_option tactic.hygienic false
namespace Mine
end Mine
open Mine
set_option compiler.extract_closed false in
local macro_rules | `(tactic| wtm_at $s) => do
  let i (n : String) := Lean.mkIdent n.toName
  let l (t : String) := (t.splitOn " ").toArray
  let f (t : String) := (l t).mapM fun n => `(tacticSeq| refine $(i n) ?_)
  let w (t : String) : Lean.MacroM (Lean.TSyntax `tactic) := `(tactic| wtm_at $(Lean.quote t):str)
  let ws (t : String) := (l t).mapM fun n => do `(tacticSeq| $(← w n):tactic)
  let g (n v : String) : Lean.MacroM Lean.Syntax := do `(tactic| ((with_reducible refine' $(i n) ?F ?v ?_); (case F => assumption); (case v => $(← w v):tactic)))
  match s.getString with
  | "stp" => do `(tactic| with_reducible first $[| $(← f "wpAny_execs_cons wpAny_execs_nil x_Assign wpAny_AugAssign_Name wpAny_Return_some wpAny_If x_Expr x_For wpAny_BinOp r_int r_str r_none r_bool List_ Tuple_ spliced_none x_more Subscript_ x_Compare x_isTrueCompare x_Meth x_base x_cwF x_cwM kp_type kp_builtin x_kw0 x_kw1 x_Call wpAny_assign_Name r_add r_sub r_iadd")]*)
  | "st2" => do `(tactic| with_reducible first $[| $(← f "UnaryOp_ IfExp_ BoolOp_and BoolOp_or BoolOp_one isTrue_not isTrue_and isTrue_or wpAny_isTrue_IsNone wpAny_isTrue_IsNotNone tests_nil tests_one PyProof.Rows.lt_int PyProof.Rows.gt_int PyProof.Rows.eq_int PyProof.Rows.ne_int wpAny_truthy_bool PyProof.Rows.truthy_int")]* | refine isTrue_plain ?_ (by with_unfolding_all rfl))
  | "mm" => do `(tactic| first $[| $(← (l "mh0 mh1 mh2 mh3").mapM fun n => `(tacticSeq| exact $(i n)))]* | (refine $(i "mt4") ?_; $(← w "mm")) | (repeat (first | exact .head _ | refine .tail _ ?_)))
  | "as" => `(tactic| assumption)
  | "ml" => `(tactic| with_unfolding_all first | assumption | rfl)
  | "sts" => g "r_st" "as"
  | "stl" => g "nm_L" "ml"
  | "sln" => g "ln_L" "ml"
  | "go" => do `(tactic| repeat (first $[| $(← ws "stp stl sln")]*))
  | "go2" => do `(tactic| repeat (first $[| $(← ws "stp stl sln st2")]*))
  | "prm" => do `(tactic| ((repeat (refine $(i "pm_cons") (by wtm_at "mm") ?_)); (repeat (first $[| $(← (l "pm_nil pm_id").mapM fun n => `(tacticSeq| exact $(i n)))]* | refine $(i "pm_tail") ?_))))
  | _ => Lean.Macro.throwUnsupported
-- B0
section
namespace Mine
theorem mid1 {l r : Nat} (h : l ≤ r) : l ≤ (l + r) / 2 := (Nat.le_div_iff_mul_le Nat.two_pos).mpr (Nat.mul_two l ▸ Nat.add_le_add_left h l)
theorem mid2 {l r : Nat} (h : l < r) : (l + r) / 2 < r := (Nat.div_lt_iff_lt_mul Nat.two_pos).mpr (Nat.mul_two r ▸ Nat.add_lt_add_right h r)
theorem lo_add {l r n : Nat} (h : r - l ≤ n) : r ≤ l + n := Nat.add_comm n l ▸ Nat.le_add_of_sub_le h
theorem hf_l {l r d n : Nat} (h : d < r) (e : r - l ≤ n + 1) : d - l ≤ n := Nat.sub_le_iff_le_add'.mpr (Nat.le_of_lt_succ (Nat.lt_of_lt_of_le h (lo_add e)))
theorem hf_r {l r d n : Nat} (h : l ≤ d) (e : r - l ≤ n + 1) : r - (d + 1) ≤ n := Nat.sub_le_iff_le_add'.mpr (Nat.succ_add d n ▸ Nat.le_trans (lo_add e) (Nat.succ_le_succ (Nat.add_le_add_right h n)))
theorem sub_one_add {l r : Nat} (h : l < r) : ∃ k, r - l = k + 1 := ⟨r - l - 1, (Nat.sub_add_cancel (Nat.sub_pos_of_lt h)).symm⟩
theorem hf_a {l r d x c : Nat} (h : l < r) (h2 : d < r) (e : x + (r - l) ≤ c) : x + 1 + (d - l) ≤ c := by
  obtain ⟨k, hk⟩ := sub_one_add h
  rw [hk] at e
  exact Nat.le_trans (Nat.add_right_comm x 1 (d - l) ▸ Nat.succ_le_succ (Nat.add_le_add_left (hf_l h2 (Nat.le_of_eq hk)) x)) e
theorem hf_b {l r d x c : Nat} (h : l < r) (h2 : l ≤ d) (e : x + (r - l) ≤ c) : x + 1 + (r - (d + 1)) ≤ c := by
  obtain ⟨k, hk⟩ := sub_one_add h
  rw [hk] at e
  exact Nat.le_trans (Nat.add_right_comm x 1 (r - (d + 1)) ▸ Nat.succ_le_succ (Nat.add_le_add_left (hf_r h2 (Nat.le_of_eq hk)) x)) e
theorem sub_lt_l {l r d : Nat} (h : l ≤ d) (h2 : d < r) : d - l < r - l := Nat.sub_lt_sub_right h h2
theorem sub_lt_r {l r d : Nat} (h : l < r) (h2 : l ≤ d) : r - (d + 1) < r - l := Nat.sub_lt_sub_left h (Nat.lt_succ_of_le h2)
theorem zn {i n : Nat} (h : i < n) : n - (i + 1) < n - i := Nat.sub_lt_sub_left h (Nat.lt_succ_self i)
theorem zi3 {b n : Nat} (h : b ≤ n) : (n : Int) - (b : Int) = ((n - b : Nat) : Int) := (Int.ofNat_sub h).symm
theorem zi2 {n : Nat} (h : 1 ≤ n) : (n : Int) - 1 = ((n - 1 : Nat) : Int) := zi3 h
theorem zi1 {s : Nat} (h : s < 2) : (1 : Int) - (s : Int) = ((1 - s : Nat) : Int) := zi3 (Nat.le_of_lt_succ h)
theorem zt0 {i : Nat} : (0 + (i : Int)).toNat = i := by rw [Int.zero_add]; rfl
theorem zt2 {s : Nat} (h : s < 2) : ((1 : Int) - (s : Int)).toNat = 1 - s := by rw [zi1 h]; rfl
theorem zt3 {n : Nat} (h : 1 ≤ n) : ((n : Int) - 1).toNat = n - 1 := by rw [zi2 h]; rfl
theorem zt1 {n : Nat} (h : 1 ≤ n) : (-1 + (n : Int)).toNat = n - 1 := by rw [Int.add_comm]; exact zt3 h
theorem zle {n c d : Nat} (h : n ≤ c) (e : Nat.ble c d = true) : n ≤ d := Nat.le_trans h (Nat.le_of_ble_eq_true e)
theorem zlt {n c d : Nat} (h : n < c) (e : Nat.ble c d = true) : n < d := Nat.lt_of_lt_of_le h (Nat.le_of_ble_eq_true e)
theorem zel {n c d : Nat} (h : n ≤ c) (e : Nat.blt c d = true) : n < d := Nat.lt_of_le_of_lt h (Nat.le_of_ble_eq_true e)
theorem zpred {n : Nat} (h : 1 ≤ n) : n - 1 < n := Nat.sub_lt h Nat.one_pos
theorem zlel {i n m : Nat} (h : i < n) (e : n = m) : i < m := e ▸ h
theorem zmaxl {i n : Nat} (h : i ≤ n) : (max (i : Int) (n : Int)).toNat = n := by rw [Int.max_eq_right (Int.ofNat_le.mpr h)]; rfl
theorem zng {n : Nat} (h : 1 ≤ n) : -(n : Int) ≤ -1 := Int.neg_le_neg (Int.ofNat_le.mpr h)
theorem zmodn {a k : Int} (h : (0 : Int) < k) : a % k = ((a % k).toNat : Int) := (Int.toNat_of_nonneg (Int.emod_nonneg a (Int.ne_of_gt h))).symm
theorem fa_nil {α : Type} {P : α → Prop} : ∀ a ∈ ([] : List α), P a := fun zz h => nomatch h
theorem fa_cons {α : Type} {P : α → Prop} {x : α} {l : List α} (h : P x) (t : ∀ a ∈ l, P a) : ∀ a ∈ x :: l, P a := fun a ha => by
  cases ha with
  | head => exact h
  | tail _ ha => exact t a ha
theorem notIn {α : Type} {x : α} {l : List α} (h : ∀ a ∈ l, a ≠ x) : x ∉ l := fun m => h x m rfl
noncomputable abbrev PW : Program := PySem.Challenge.pw_wa0021_01
noncomputable def stm (i : Nat) : Option Stmt := PW.main.body[i]?
noncomputable def bodyOf : Option Stmt → Option (List Stmt)
  | some (.FunctionDef _ _ b _ _ _ _ _ _ _) => some b
  | some (.ClassDef _ _ _ b _ _ _ _ _ _ _) => some b
  | _ => none
noncomputable def argsOf : Option Stmt → Option Arguments
  | some (.FunctionDef _ a _ _ _ _ _ _ _ _) => some a
  | _ => none
noncomputable def scopeOf : Option Stmt → Option Scope
  | some (.FunctionDef _ _ _ _ _ _ sc _ _ _) => some sc
  | _ => none
noncomputable def mth (i : Nat) : Option Stmt := (bodyOf (stm 13)).bind (·[i]?)
noncomputable abbrev pick {α : Type} (o : Option α) (x : α) (_ : o = some x) : α := x
structure Amb (A : Around) (n : Nat) : Prop where
  hd : A.handled = none
  dp : A.depth + n < recursionLimit
  un : A.units + 16 * n < cLine
theorem Amb.mono {A : Around} {n m : Nat} (a : Amb A n) (h : m ≤ n) : Amb A m := ⟨a.hd, by have := a.dp; lia, by have := a.un; lia⟩
theorem Amb.deeper {A : Around} {n : Nat} {env : Env} (a : Amb A (n + 1)) : Amb (A.deeper env) n :=
  ⟨a.hd, by have := a.dp; show A.depth + 1 + n < _; lia, by have := a.un; show A.units + 3 + 16 * n < _; lia⟩
theorem Amb.in1 {A : Around} {n : Nat} (a : Amb A (n + 1)) : Amb A.in1 n :=
  ⟨a.hd, by have := a.dp; show A.depth + n < _; lia, by have := a.un; show A.units + 1 + 16 * n < _; lia⟩
theorem Amb.room {A : Around} {n : Nat} (a : Amb A n) : A.depth < recursionLimit := by have := a.dp; lia
theorem Amb.unit {A : Around} {n : Nat} (a : Amb A n) : A.units < cLine := by have := a.un; lia

noncomputable def FnK (K : Frag) (f : Addr) (name qual : Str) (ar : Arguments) (b : List Stmt) (sc : Scope) (clos : List (Str × Addr)) (dV kV : Value) (c : Addr) (ct : Value) : Prop :=
  (∃ pm, K.lookup f = some { cls := .type "function", data := .func (fnX name qual ar b sc clos dV kV .none pm none (.ref c) ct) }) ∧ codeIn K (.ref c) qual = true

noncomputable def b_flags : List Stmt := pick (bodyOf (stm 3)) _ (by with_unfolding_all rfl)
noncomputable def a_flags : Arguments := pick (argsOf (stm 3)) _ (by with_unfolding_all rfl)
noncomputable def s_flags : Scope := pick (scopeOf (stm 3)) _ (by with_unfolding_all rfl)
noncomputable def b_info : List Stmt := pick (bodyOf (stm 6)) _ (by with_unfolding_all rfl)
noncomputable def a_info : Arguments := pick (argsOf (stm 6)) _ (by with_unfolding_all rfl)
noncomputable def s_info : Scope := pick (scopeOf (stm 6)) _ (by with_unfolding_all rfl)
noncomputable def b_varint : List Stmt := pick (bodyOf (stm 7)) _ (by with_unfolding_all rfl)
noncomputable def a_varint : Arguments := pick (argsOf (stm 7)) _ (by with_unfolding_all rfl)
noncomputable def s_varint : Scope := pick (scopeOf (stm 7)) _ (by with_unfolding_all rfl)
noncomputable def b_right : List Stmt := pick (bodyOf (stm 9)) _ (by with_unfolding_all rfl)
noncomputable def a_right : Arguments := pick (argsOf (stm 9)) _ (by with_unfolding_all rfl)
noncomputable def s_right : Scope := pick (scopeOf (stm 9)) _ (by with_unfolding_all rfl)
noncomputable def b_left : List Stmt := pick (bodyOf (stm 10)) _ (by with_unfolding_all rfl)
noncomputable def a_left : Arguments := pick (argsOf (stm 10)) _ (by with_unfolding_all rfl)
noncomputable def s_left : Scope := pick (scopeOf (stm 10)) _ (by with_unfolding_all rfl)
noncomputable def b_read : List Stmt := pick (bodyOf (stm 15)) _ (by with_unfolding_all rfl)
noncomputable def a_read : Arguments := pick (argsOf (stm 15)) _ (by with_unfolding_all rfl)
noncomputable def s_read : Scope := pick (scopeOf (stm 15)) _ (by with_unfolding_all rfl)
noncomputable def b_marks : List Stmt := pick (bodyOf (stm 16)) _ (by with_unfolding_all rfl)
noncomputable def a_marks : Arguments := pick (argsOf (stm 16)) _ (by with_unfolding_all rfl)
noncomputable def s_marks : Scope := pick (scopeOf (stm 16)) _ (by with_unfolding_all rfl)
noncomputable def b_keys : List Stmt := pick (bodyOf (stm 17)) _ (by with_unfolding_all rfl)
noncomputable def a_keys : Arguments := pick (argsOf (stm 17)) _ (by with_unfolding_all rfl)
noncomputable def s_keys : Scope := pick (scopeOf (stm 17)) _ (by with_unfolding_all rfl)
noncomputable def b_pieces : List Stmt := pick (bodyOf (stm 18)) _ (by with_unfolding_all rfl)
noncomputable def a_pieces : Arguments := pick (argsOf (stm 18)) _ (by with_unfolding_all rfl)
noncomputable def s_pieces : Scope := pick (scopeOf (stm 18)) _ (by with_unfolding_all rfl)
noncomputable def b_pile : List Stmt := pick (bodyOf (stm 19)) _ (by with_unfolding_all rfl)
noncomputable def a_pile : Arguments := pick (argsOf (stm 19)) _ (by with_unfolding_all rfl)
noncomputable def s_pile : Scope := pick (scopeOf (stm 19)) _ (by with_unfolding_all rfl)
noncomputable def b_block : List Stmt := pick (bodyOf (stm 20)) _ (by with_unfolding_all rfl)
noncomputable def a_block : Arguments := pick (argsOf (stm 20)) _ (by with_unfolding_all rfl)
noncomputable def s_block : Scope := pick (scopeOf (stm 20)) _ (by with_unfolding_all rfl)
noncomputable def b_taken : List Stmt := pick (bodyOf (stm 21)) _ (by with_unfolding_all rfl)
noncomputable def a_taken : Arguments := pick (argsOf (stm 21)) _ (by with_unfolding_all rfl)
noncomputable def s_taken : Scope := pick (scopeOf (stm 21)) _ (by with_unfolding_all rfl)
noncomputable def b_law : List Stmt := pick (bodyOf (stm 22)) _ (by with_unfolding_all rfl)
noncomputable def a_law : Arguments := pick (argsOf (stm 22)) _ (by with_unfolding_all rfl)
noncomputable def s_law : Scope := pick (scopeOf (stm 22)) _ (by with_unfolding_all rfl)
noncomputable def b_init : List Stmt := pick (bodyOf (mth 0)) _ (by with_unfolding_all rfl)
noncomputable def a_init : Arguments := pick (argsOf (mth 0)) _ (by with_unfolding_all rfl)
noncomputable def s_init : Scope := pick (scopeOf (mth 0)) _ (by with_unfolding_all rfl)
noncomputable def b_push : List Stmt := pick (bodyOf (mth 1)) _ (by with_unfolding_all rfl)
noncomputable def a_push : Arguments := pick (argsOf (mth 1)) _ (by with_unfolding_all rfl)
noncomputable def s_push : Scope := pick (scopeOf (mth 1)) _ (by with_unfolding_all rfl)
noncomputable def b_popf : List Stmt := pick (bodyOf (mth 2)) _ (by with_unfolding_all rfl)
noncomputable def a_popf : Arguments := pick (argsOf (mth 2)) _ (by with_unfolding_all rfl)
noncomputable def s_popf : Scope := pick (scopeOf (mth 2)) _ (by with_unfolding_all rfl)
noncomputable def b_pop : List Stmt := pick (bodyOf (mth 3)) _ (by with_unfolding_all rfl)
noncomputable def a_pop : Arguments := pick (argsOf (mth 3)) _ (by with_unfolding_all rfl)
noncomputable def s_pop : Scope := pick (scopeOf (mth 3)) _ (by with_unfolding_all rfl)
noncomputable def b_len : List Stmt := pick (bodyOf (mth 4)) _ (by with_unfolding_all rfl)
noncomputable def a_len : Arguments := pick (argsOf (mth 4)) _ (by with_unfolding_all rfl)
noncomputable def s_len : Scope := pick (scopeOf (mth 4)) _ (by with_unfolding_all rfl)
noncomputable def b_str : List Stmt := pick (bodyOf (mth 5)) _ (by with_unfolding_all rfl)
noncomputable def a_str : Arguments := pick (argsOf (mth 5)) _ (by with_unfolding_all rfl)
noncomputable def s_str : Scope := pick (scopeOf (mth 5)) _ (by with_unfolding_all rfl)
noncomputable def b_reset : List Stmt := pick (bodyOf (mth 6)) _ (by with_unfolding_all rfl)
noncomputable def a_reset : Arguments := pick (argsOf (mth 6)) _ (by with_unfolding_all rfl)
noncomputable def s_reset : Scope := pick (scopeOf (mth 6)) _ (by with_unfolding_all rfl)
noncomputable def b_count : List Stmt := pick (bodyOf (mth 8)) _ (by with_unfolding_all rfl)
noncomputable def a_count : Arguments := pick (argsOf (mth 8)) _ (by with_unfolding_all rfl)
noncomputable def s_count : Scope := pick (scopeOf (mth 8)) _ (by with_unfolding_all rfl)
end Mine
end
-- HA
section
open PySem.W.X PySem.W.ZRun
namespace Mine
/-! what is read of the start; the two half runs of the start -/
noncomputable abbrev tabA : List Addr := [126, 133, 204, 211]
noncomputable def codeB (K : Frag) (c P : Addr) : Bool := match K.lookup c with
  | some ⟨.type t, _, .fields vs, _⟩ => t == "code" && (vs[11]? == some (.ref P)) && (vs.getD 11 .none == .ref P) && (match vs.getD 18 .none with | .str _ _ => true | _ => false) && (match vs.getD 7 .none with | .int _ _ => true | _ => false) &&
      (match vs.getD 9 .none with | .bool _ => true | _ => false) && (match vs.getD 10 .none with | .int _ _ => true | _ => false) && !(c == P)
  | _ => false
noncomputable def nameTab : List (Int × PyData) := [(1, .str "OPTIMIZED"), (2, .str "NEWLOCALS"), (4, .str "VARARGS"), (8, .str "VARKEYWORDS"), (16, .str "NESTED"), (32, .str "GENERATOR"), (64, .str "NOFREE"), (128, .str "COROUTINE"), (256, .str "ITERABLE_COROUTINE"), (512, .str "ASYNC_GENERATOR")]
noncomputable abbrev kAs : List Addr := [mainGlobals, cStatics, 163, 164, 22, 88, 67, 68, 76, 77, 93, 109, 139, 185, 173, 66, 178, 29, 190, 197, 209, 202, 59, 75, 84, 101, 108, 116, 124, 131, 138, 146, 161, 214,
  184, 172, 65, 177, 28, 189, 196, 208, 201, 58, 74, 83, 100, 107, 115, 123, 130, 137, 145, 160, 213]
noncomputable def fragOf (h : Heap) : List Addr → Frag
  | [] => []
  | a :: r => match h.get? a with
    | some o => (a, o) :: fragOf h r
    | none => fragOf h r
noncomputable def strip (o : Obj) : Obj := { o with data := match o.data with
  | .func f => .func { f with pyModule := .none }
  | x => x }
noncomputable abbrev fo (name qual : Str) (ar : Arguments) (b : List Stmt) (sc : Scope) (clos : List (Str × Addr)) (dV kV : Value) (c : Addr) (ct pm : Value) : Obj := { cls := .type "function", data := .func (fnX name qual ar b sc clos dV kV .none pm none (.ref c) ct) }
noncomputable def strO : Option Value → Option Str
  | some (.str s _) => some s
  | _ => none
noncomputable def fld2 : Option Obj → Option Str
  | some ⟨_, _, .fields vs, _⟩ => strO vs[2]?
  | _ => none
noncomputable def clsO : Option Obj → Option (List Value × Bool × Bool × Bool × Str)
  | some ⟨_, _, .cls cd, _⟩ => some (cd.mro, cd.hasDict, cd.abstract, cd.hasDel, cd.qualname)
  | _ => none
noncomputable def oN (K : Frag) : List (Option (Option Value)) := ["next", "iter", "StopIteration", "_parse_varint", "pretty_flags", "_get_name_info", "_law_block", "bisect_left", "bisect_right", "list", "COMPILER_FLAG_NAMES", "range", "hex", "sum", "len", "enumerate", "isinstance", "tuple", "sorted", "str", "min", "max", "set", "_law_keys", "_law_read", "_law_marks", "UNKNOWN", "_law_pieces", "_law_pile", "_Accumulator", "_law_taken", "super", "law"].map fun x => nsIn K mainGlobals (Str.ofString x)
noncomputable def vN : List (Option (Option Value)) := [some none, some none, some none, some (some (.ref 66)), some (some (.ref 29)), some (some (.ref 59)), some (some (.ref 202)), some (some (.ref 84)), some (some (.ref 75)), some none, some (some (.ref 22)), some none, some none, some none, some none, some none, some none, some none, some none, some none, some none, some none, some none, some (some (.ref 185)), some (some (.ref 173)), some (some (.ref 178)), some (some (.ref 52)), some (some (.ref 190)), some (some (.ref 197)), some (some (.ref 164)), some (some (.ref 209)), some none, some (some (.ref 214))]
noncomputable def oM (K : Frag) : List (Option (Option Value)) := nsIn K cStatics "thirdparty.any" :: specialIn K (.ref 164) "__call__" :: alongIn K "__init__" [.type "list", .type "object"] :: alongIn K "__len__" [.type "list", .type "object"] :: alongIn K "pop" [.type "list", .type "object"] :: ["_initial_size", "__getattribute__", "__getattr__", "append", "__iter__", "__getitem__", "__setitem__", "__setattr__", "push", "pop_from", "pop", "reset", "part_count", "__init__", "__str__", "__len__"].map fun x => findIn K (.ref 164) (Str.ofString x)
noncomputable def vM : List (Option (Option Value)) := [some none, some (some (.builtin "type.__call__")), some (some (.builtin "list.__init__")), some (some (.builtin "list.__len__")), some (some (.builtin "list.pop")), some none, some (some (.builtin "list.__getattribute__")), some none, some (some (.builtin "list.append")), some (some (.builtin "list.__iter__")), some (some (.builtin "list.__getitem__")), some (some (.builtin "list.__setitem__")), some (some (.builtin "object.__setattr__")), some (some (.ref 108)), some (some (.ref 116)), some (some (.ref 124)), some (some (.ref 146)), some (some (.ref 161)), some (some (.ref 101)), some (some (.ref 138)), some (some (.ref 131))]
noncomputable def oF (K : Frag) : List (Option Obj) := [185, 173, 66, 178, 29, 190, 197, 209, 202, 59, 75, 84, 101, 108, 116, 124, 131, 138, 146, 161, 214].map fun a => (K.lookup a).map strip
noncomputable def vF : List (Option Obj) := [some (fo "_law_keys" "_law_keys" a_keys b_keys s_keys [] .none .none 184 .none .none), some (fo "_law_read" "_law_read" a_read b_read s_read [] .none .none 172 .none .none), some (fo "_parse_varint" "_parse_varint" a_varint b_varint s_varint [] .none .none 65 .none .none), some (fo "_law_marks" "_law_marks" a_marks b_marks s_marks [] .none .none 177 .none .none), some (fo "pretty_flags" "pretty_flags" a_flags b_flags s_flags [] .none .none 28 .none .none), some (fo "_law_pieces" "_law_pieces" a_pieces b_pieces s_pieces [] .none .none 189 .none .none), some (fo "_law_pile" "_law_pile" a_pile b_pile s_pile [] .none .none 196 .none .none), some (fo "_law_taken" "_law_taken" a_taken b_taken s_taken [] .none .none 208 .none .none), some (fo "_law_block" "_law_block" a_block b_block s_block [] .none .none 201 .none .none), some (fo "_get_name_info" "_get_name_info" a_info b_info s_info [] .none .none 58 .none .none), some (fo "bisect_right" "bisect_right" a_right b_right s_right [] (.ref 67) (.ref 68) 74 .none .none), some (fo "bisect_left" "bisect_left" a_left b_left s_left [] (.ref 76) (.ref 77) 83 .none .none), some (fo "__init__" "_Accumulator.__init__" a_init b_init s_init [("__class__", 88)] (.ref 93) .none 100 (.ref 94) .none), some (fo "push" "_Accumulator.push" a_push b_push s_push [] .none .none 107 .none .none), some (fo "pop_from" "_Accumulator.pop_from" a_popf b_popf s_popf [] (.ref 109) .none 115 .none .none), some (fo "pop" "_Accumulator.pop" a_pop b_pop s_pop [("__class__", 88)] .none .none 123 (.ref 117) .none), some (fo "__len__" "_Accumulator.__len__" a_len b_len s_len [] .none .none 130 .none .none), some (fo "__str__" "_Accumulator.__str__" a_str b_str s_str [] .none .none 137 .none .none), some (fo "reset" "_Accumulator.reset" a_reset b_reset s_reset [] (.ref 139) .none 145 .none .none), some (fo "part_count" "_Accumulator.part_count" a_count b_count s_count [("__class__", 88)] .none .none 160 (.ref 154) .none), some (fo "law" "law" a_law b_law s_law [] .none .none 213 .none .none)]
noncomputable def oB (K : Frag) : List Bool := noSeq K 164 :: KTD.keyedLook (fun b => K.lookup b) 22 nameTab :: isFn K (.ref 138) :: isFn K (.ref 131) :: codeB K 130 126 :: codeB K 137 133 :: codeB K 208 204 :: codeB K 213 211 :: [(184, "_law_keys"), (172, "_law_read"), (65, "_parse_varint"), (177, "_law_marks"), (28, "pretty_flags"), (189, "_law_pieces"), (196, "_law_pile"), (208, "_law_taken"), (201, "_law_block"), (58, "_get_name_info"), (74, "bisect_right"), (83, "bisect_left"), (100, "_Accumulator.__init__"), (107, "_Accumulator.push"), (115, "_Accumulator.pop_from"), (123, "_Accumulator.pop"), (130, "_Accumulator.__len__"), (137, "_Accumulator.__str__"), (145, "_Accumulator.reset"), (160, "_Accumulator.part_count"), (213, "law")].map fun p => codeIn K (.ref p.1) (Str.ofString p.2)
noncomputable def vB : List Bool := List.replicate 29 true
noncomputable def oT (K : Frag) : List (Option Value) := [.ref 108, .ref 116, .ref 124, .ref 146, .ref 161, .ref 101, .ref 164, .builtin "list.append"].map (typeIn K)
noncomputable def vT : List (Option Value) := List.replicate 6 (some (.type "function")) ++ [some (.type "type"), some (.type "method_descriptor")]
noncomputable def oR (K : Frag) : List (Option Bool) := [mroIn K 164 (.type "list"), mroIn K 164 (.type "module"), mroIn K 164 (.ref 164), instIn K (.ref 164) (.type "type")]
noncomputable def vR : List (Option Bool) := [some true, some false, some true, some true]
noncomputable def oS (K : Frag) : List (Option Str) := [fld2 (K.lookup 100), fld2 (K.lookup 123), fld2 (K.lookup 160), strO ((nsIn K mainGlobals "EMPTYSTRING").getD none)]
noncomputable def vS : List (Option Str) := [some "/claim/cut.py", some "/claim/cut.py", some "/claim/cut.py", some ""]
noncomputable def oP1 (K : Frag) := fun (S : Setting) (pm v1 v2 v3 v4 v5 : Value) => (peek K S (bindArgs (fnX "bisect_right" "bisect_right" a_right b_right s_right [] (.ref 67) (.ref 68) .none pm none (.ref 74) .none) ⟨[v1, v2, v3, v4], [("key", v5)]⟩), peek K S (bindArgs (fnX "bisect_left" "bisect_left" a_left b_left s_left [] (.ref 76) (.ref 77) .none pm none (.ref 83) .none) ⟨[v1, v2, v3, v4], [("key", v5)]⟩))
noncomputable def vP1 := fun (S : Setting) (pm v1 v2 v3 v4 v5 : Value) => (some [(("a" : Str), v1), ("x", v2), ("lo", v3), ("hi", v4), ("key", v5)], some [(("a" : Str), v1), ("x", v2), ("lo", v3), ("hi", v4), ("key", v5)])
noncomputable def oP2 (K : Frag) := fun (S : Setting) (pm x v : Value) => (peek K S (Bind.madeBy (.ref 164)), peek K S (Bind.staticBase (.ref 164)), peek K S (bindArgs (fnX "__init__" "_Accumulator.__init__" a_init b_init s_init [("__class__", 88)] (.ref 93) .none .none pm none (.ref 100) (.ref 94)) ⟨[x, v], []⟩), peek K S (bindArgs (fnX "pop_from" "_Accumulator.pop_from" a_popf b_popf s_popf [] (.ref 109) .none .none pm none (.ref 115) .none) ⟨[x, v], []⟩), peek K S (bindArgs (fnX "reset" "_Accumulator.reset" a_reset b_reset s_reset [] (.ref 139) .none .none pm none (.ref 145) .none) ⟨[x, v], []⟩))
noncomputable def vP2 := fun (S : Setting) (pm x v : Value) => (some (some ("list.__new__" : String)), some (Value.ref 164), some [(("self" : Str), x), ("initial_size", v)], some [(("self" : Str), x), ("i", v)], some [(("self" : Str), x), ("startval", v)])
noncomputable def clsV : Option (List Value × Bool × Bool × Bool × Str) := some ([.ref 164, .type "list", .type "object"], true, false, false, "_Accumulator")
noncomputable def obsK (K : Frag) := (oN K, oM K, oF K, oB K, oT K, oR K, oS K, clsO (K.lookup 164), (K.lookup 88).map (·.data), oP1 K, oP2 K)
noncomputable def valK := (vN, vM, vF, vB, vT, vR, vS, clsV, (some (.cell (some (.ref 164))) : Option Data), vP1, vP2)
noncomputable def viewB : List Stmt := [0, 1, 3, 4, 6, 7, 8, 11, 12, 14, 15, 16, 17, 18, 19, 20, 21, 22].filterMap fun i => PW.main.body[i]?
noncomputable def viewP : Program := { PW with main := { PW.main with body := viewB } }
theorem halfF (w : World) : (fencedOpening treeTable PySem.Challenge.rw_wa0021_01.row.prog w 2946).map (fun s₀ => (topFrom treeTable PySem.Challenge.rw_wa0021_01.row.prog (w.withFollow "special-get-raises" false) 2946 s₀).map fun s => (openSeen viewP ["COMPILER_FLAG_NAMES", "UNKNOWN", "bisect_right", "bisect_left", "_Accumulator"] (importedModules PySem.Challenge.rw_wa0021_01.row.prog.main.body) (fun s => xlAt viewP [] s && recOk (RowW.records PySem.Challenge.rw_wa0021_01.row.toRowW) s) true s, (obsK (fragOf s.heap kAs), tabA.map s.heap.get?, s.heap.objs.size))) =
    some (some (openGood viewP ["COMPILER_FLAG_NAMES", "UNKNOWN", "bisect_right", "bisect_left", "_Accumulator"], (valK, List.replicate 4 (some (tabObj #[])), 215))) := by kernel_rfl
theorem halfT (w : World) : (fencedOpening treeTable PySem.Challenge.rw_wa0021_01.row.prog w 2946).map (fun s₀ => (topFrom treeTable PySem.Challenge.rw_wa0021_01.row.prog (w.withFollow "special-get-raises" true) 2946 s₀).map fun s => (openSeen viewP ["COMPILER_FLAG_NAMES", "UNKNOWN", "bisect_right", "bisect_left", "_Accumulator"] (importedModules PySem.Challenge.rw_wa0021_01.row.prog.main.body) (fun s => xlAt viewP [] s && recOk (RowW.records PySem.Challenge.rw_wa0021_01.row.toRowW) s) true s, (obsK (fragOf s.heap kAs), tabA.map s.heap.get?, s.heap.objs.size))) =
    some (some (openGood viewP ["COMPILER_FLAG_NAMES", "UNKNOWN", "bisect_right", "bisect_left", "_Accumulator"], (valK, List.replicate 4 (some (tabObj #[])), 215))) := by kernel_rfl
end Mine
end
-- B1
section
namespace Mine

structure Gd (K : Frag) (mg mb : Str → Option Value) (g : Heap) : Prop where
  X : K.In g
  gl : g.Ns mainGlobals mg
  bl : g.Ns builtinsNs mb
  nl : g.NoLimit
  bi : ∀ x : Str, x ≠ "__name__" → mb x = bootBuiltins x
noncomputable abbrev Sub (g h : Heap) : Prop := ∀ b o, g.get? b = some o → h.get? b = some o
theorem Gd.keeps {K : Frag} {mg mb : Str → Option Value} {g h : Heap} (G : Gd K mg mb g) (k : Sub g h) : Gd K mg mb h :=
  ⟨G.X.keeps k, G.gl.keeps k, G.bl.keeps k, G.nl.keeps k, G.bi⟩

section
variable {M : Model} {A : Around} {E : Value → Shared → Prop} {s : Shared} {K : Frag} {g : Heap} {L a : Addr} {m mg mb : Str → Option Value} {env : Env}
  {x : Str} {pos : Pos} {v : Value} {Q : Value → Shared → Prop} {c : Addr}
theorem nm_K (F : Fr g L s.heap m) (G : Gd K mg mb g) (e : nsIn K mainGlobals x = some (some v)) (h : Q v s)
    (hg : env.globals = mainGlobals := by with_unfolding_all rfl) (hk : env.scope.kind = .function := by with_unfolding_all rfl) (hx : env.kindOf x = some .globalImplicit := by with_unfolding_all rfl) (hd : (x == ("__debug__" : Str)) = false := by with_unfolding_all rfl) :
    wpAny M A (eval (.Name x pos) env) Q E s := Name_function_global hk hx (loadGlobal_global (by rw [hg]; exact G.gl.keeps F.keep) (mg_of G.X G.gl e) h) hd
theorem nm_B (F : Fr g L s.heap m) (G : Gd K mg mb g) (e : nsIn K mainGlobals x = some none) (hv : bootBuiltins x = some v) (h : Q v s)
    (hn : (x == ("__name__" : Str)) = false := by with_unfolding_all rfl)
    (hg : env.globals = mainGlobals := by with_unfolding_all rfl) (hb : env.builtins = builtinsNs := by with_unfolding_all rfl) (hk : env.scope.kind = .function := by with_unfolding_all rfl) (hx : env.kindOf x = some .globalImplicit := by with_unfolding_all rfl) (hd : (x == ("__debug__" : Str)) = false := by with_unfolding_all rfl) :
    wpAny M A (eval (.Name x pos) env) Q E s :=
  Name_function_global hk hx (loadGlobal_builtin (by rw [hg]; exact G.gl.keeps F.keep) (mg_none_of G.X G.gl e) (by rw [hb]; exact G.bl.keeps F.keep) ((G.bi x (fun e => by rw [e] at hn; exact absurd hn (by decide))).trans hv) h) hd
theorem nm_L (F : Fr g L s.heap m) (hv : m x = some v) (h : Q v s)
    (hL : env.locals = L := by with_unfolding_all rfl) (hk : env.scope.kind = .function := by with_unfolding_all rfl) (hx : env.kindOf x = some .local := by with_unfolding_all rfl) (hd : (x == ("__debug__" : Str)) = false := by with_unfolding_all rfl) :
    wpAny M A (eval (.Name x pos) env) Q E s := wpAny_Name (wpAny_loadName_local hk hx (hL ▸ F.ns) hv h) hd
theorem ln_L (F : Fr g L s.heap m) (hv : m x = some v) (h : Q v s)
    (hL : env.locals = L := by with_unfolding_all rfl) (hk : env.scope.kind = .function := by with_unfolding_all rfl) (hx : env.kindOf x = some .local := by with_unfolding_all rfl) :
    wpAny M A (loadName env x) Q E s := wpAny_loadName_local hk hx (hL ▸ F.ns) hv h
theorem nm_C {o : Obj} (ho : s.heap.get? c = some o) (hd : o.data = .cell (some v)) (h : Q v s)
    (hc : env.cells.lookup x = some c := by with_unfolding_all rfl) (hk : env.scope.kind = .function := by with_unfolding_all rfl) (hx : env.kindOf x = some .cell := by with_unfolding_all rfl) (hb : (x == ("__debug__" : Str)) = false := by with_unfolding_all rfl) :
    wpAny M A (eval (.Name x pos) env) Q E s := wpAny_Name (wpAny_loadName_cell hk hx hc ⟨o, ho, hd⟩ h) hb
theorem nm_F {o : Obj} (ho : s.heap.get? c = some o) (hd : o.data = .cell (some v)) (h : Q v s)
    (hc : env.cells.lookup x = some c := by with_unfolding_all rfl) (hk : env.scope.kind = .function := by with_unfolding_all rfl) (hx : env.kindOf x = some .free := by with_unfolding_all rfl) (hb : (x == ("__debug__" : Str)) = false := by with_unfolding_all rfl)
    (hn : (x == ("__classdict__" : Str)) = false := by with_unfolding_all rfl) :
    wpAny M A (eval (.Name x pos) env) Q E s := wpAny_Name (wpAny_loadName_free hk hx hc ⟨o, ho, hd⟩ h hn) hb
end

noncomputable def Kp (M : Model) (h : Heap) (f : Value) : Prop := ∃ k, (k = Keeper.frame ∨ k = Keeper.machine ∨ k = Keeper.boundFrame) ∧ Looks M h (keeperOf f) k
theorem Kp.type {M : Model} {h : Heap} {n : String} : Kp M h (.type n) := ⟨.machine, .inr (.inl rfl), Looks.of_pure rfl⟩
theorem Kp.builtin {M : Model} {h : Heap} {n : String} : Kp M h (.builtin n) := ⟨.machine, .inr (.inl rfl), Looks.of_pure rfl⟩
theorem kp_type {M : Model} {h : Heap} {n : String} {P : Prop} (q : P) : Kp M h (.type n) ∧ P := ⟨Kp.type, q⟩
theorem kp_builtin {M : Model} {h : Heap} {n : String} {P : Prop} (q : P) : Kp M h (.builtin n) ∧ P := ⟨Kp.builtin, q⟩
theorem Kp.fn {M : Model} {h : Heap} {f : Addr} {o : Obj} {fd : FuncData} (e : h.get? f = some o) (hd : o.data = .func fd) : Kp M h (.ref f) := by
  refine ⟨.frame, .inl rfl, fun A Q E s k q => ?_⟩
  unfold keeperOf
  refine wpAny_bind (wpAny_load (k _ _ e) ?_)
  rw [hd]
  exact wpAny_pure q

section
variable {M : Model} {A : Around} {E : Value → Shared → Prop} {s : Shared} {Q : Value → Shared → Prop}
theorem evalArgs_any {f : Value} {args : List (Bool × Sem Value)} {kws : List (Option Str × Sem Value)} {Q : Args → Shared → Prop}
    (hs : args.any (·.1) = false) (hk : kws.all (·.1.isSome) = true)
    (h : wpAny M A (spliced args) (fun vs s₁ => wpAny M A (evalAll (kws.map (·.2))) (fun kvs s₂ => Q ⟨vs, (kws.filterMap (·.1)).zip kvs⟩ s₂) E s₁) E s) :
    wpAny M A (evalArgs f true args kws) Q E s := by
  have fin : wpAny M A (spliced args >>= fun x => holding (x ++ ([] : List Value)) (if kws.all (·.1.isSome) then (do
      let kw := (kws.filterMap (·.1)).zip (← evalAll (kws.map (·.2)))
      return ⟨← (pure x : Sem (List Value)), kw⟩) else unsupported "")) Q E s := by
    refine wpAny_bind (wpAny_mono h (fun vs s' h' => wpAny_holding ?_) fun zz zz x => x)
    rw [if_pos hk]
    exact wpAny_bind (wpAny_mono h' (fun kvs s₂ h₂ => wpAny_bind (wpAny_pure (wpAny_pure h₂))) fun zz zz x => x)
  unfold evalArgs
  cases args with
  | nil =>
    show wpAny M A (spliced [] >>= _) Q E s
    refine wpAny_bind (wpAny_mono h (fun vs s' h' => ?_) fun zz zz x => x)
    refine wpAny_holding ?_
    rw [if_pos hk]
    exact wpAny_bind (wpAny_mono h' (fun kvs s₂ h₂ => wpAny_bind (wpAny_pure (wpAny_pure h₂))) fun zz zz x => x)
  | cons x r =>
    obtain ⟨b, x⟩ := x
    cases b with
    | true => simp at hs
    | false =>
      show wpAny M A (spliced ((false, x) :: r) >>= _) Q E s
      refine wpAny_bind (wpAny_mono h (fun vs s' h' => ?_) fun zz zz x => x)
      refine wpAny_holding ?_
      rw [if_pos hk]
      exact wpAny_bind (wpAny_mono h' (fun kvs s₂ h₂ => wpAny_bind (wpAny_pure (wpAny_pure h₂))) fun zz zz x => x)
theorem callWith_a {pos : Pos} {f : Value} {first : List Value} {args : List (Bool × Sem Value)} {kws : List (Option Str × Sem Value)}
    (h : wpAny M A (spliced args) (fun vs s₁ => wpAny M A (evalAll (kws.map (·.2))) (fun ks s₂ => Kp M s₂.heap f ∧ wpAny M A (call f (first ++ vs) ((kws.filterMap (·.1)).zip ks)) Q E s₂) E s₁) E s)
    (hs : args.any (·.1) = false := by rfl) (hk : kws.all (·.1.isSome) = true := by rfl) (hn : kws.any (·.1.isNone) = false := by rfl) :
    wpAny M A (callWith pos f first args kws) Q E s :=
  callWith_of (P := fun h => Kp M h f) (by rw [hs, hn]; rfl) (fun zz x => x) (evalArgs_any hs hk h)
end
end Mine
end
-- B2
section
namespace Mine
section
variable {prog : Program} {w : World} {A : Around} {E : Value → Shared → Prop} {K : Frag} {g : Heap} {mg mb : Str → Option Value} {Q : Value → Shared → Prop}
  {f c : Addr} {name qual : Str} {ar : Arguments} {b : List Stmt} {sc : Scope} {clos : List (Str × Addr)} {dV kV ct : Value} {args : List Value} {kw : List (Str × Value)} {binds : List (Str × Value)} {W : List (Addr × Obj)}
  {h : Heap} {gs : Array GenState} {d : Drawn} {t : Nat} {os : OsState}
theorem call_fn (am : A.depth < recursionLimit) (hF : FnK K f name qual ar b sc clos dV kV c ct) (G : Gd K mg mb g) (sub : Sub g h) (sz : g.objs.size ≤ h.objs.size)
    (hW : ∀ p ∈ W, h.get? p.1 = some p.2 ∧ g.get? p.1 = none)
    (hbind : ∀ pm, BindsTo ⟨h, gs, d, t, os⟩ (fnX name qual ar b sc clos dV kV .none pm none (.ref c) ct) ⟨args, kw⟩ binds)
    (q : ∀ L h₁ t₁, Fr g L h₁ (fun y => binds.reverse.lookup y) → News g L h₁ W → (∀ p ∈ W, p.1 < L) → Sub h h₁ → h.objs.size ≤ L →
      wpAny (model prog w) (A.deeper (envX qual sc L f (.ref c) clos)) (execs b (envX qual sc L f (.ref c) clos))
        (fun fl s' => Q (match fl with | .ret v => v | _ => .none) s') (fun zz zz => False) ⟨h₁, gs, d, t₁, os⟩)
    (hloc : (binds.all fun x => decide (sc.names.lookup x.1 = some .local)) = true := by with_unfolding_all rfl)
    (hcell : (sc.names.all fun x => !decide (x.2 = .cell)) = true := by with_unfolding_all rfl)
    (hco : sc.isCoroutine = false := by with_unfolding_all rfl) (hgen : sc.isGenerator = false := by with_unfolding_all rfl) (hk : sc.kind = .function := by with_unfolding_all rfl) :
    wpAny (model prog w) A (call (.ref f) args kw) Q E ⟨h, gs, d, t, os⟩ := by
  obtain ⟨⟨pm, ho⟩, hcd⟩ := hF
  have X := G.X.keeps sub
  refine wpAny_call (codeAny_call_def (fd := fnX name qual ar b sc clos dV kV .none pm none (.ref c) ct) (body := b) (binds := binds) am (X _ _ ho) rfl (G.nl.keeps sub) (codeRec_of X hcd) rfl (hbind pm)
    (fun x hx e => by have := List.all_eq_true.mp hcell x hx; rw [e] at this; exact absurd this (by decide)) (locs hloc) (fun h₁ hns hk₁ => ?_) hco hgen hk)
  refine wpAny_mono (q h.objs.size h₁ _ ⟨hns, fun b o e => hk₁ b o (sub b o e), sz⟩ (fun p hp => ⟨hk₁ _ _ (hW p hp).1, Nat.ne_of_lt (Heap.lt_size (hW p hp).1), (hW p hp).2⟩) (fun p hp => Heap.lt_size (hW p hp).1) hk₁ (Nat.le_refl _)) (fun fl s' hl => hl) fun e s' x => x.elim
end
end Mine
end
-- B3
section
namespace Mine

theorem News.sub {g h : Heap} {L : Addr} {l l' : List (Addr × Obj)} (N : News g L h l) (k : ∀ p ∈ l', p ∈ l) : News g L h l' := fun p hp => N p (k p hp)
theorem News.apart {g h : Heap} {L a b : Addr} {o o' : Obj} {l : List (Addr × Obj)} (N : News g L h l) (h1 : (a, o) ∈ l) (h2 : (b, o') ∈ l) (hne : o ≠ o') : a ≠ b := by
  rintro rfl
  have e1 := (N _ h1).1
  have e2 := (N _ h2).1
  rw [e1] at e2
  exact hne (Option.some.inj e2)
theorem ne_of_get {h : Heap} {a b : Addr} {o o' : Obj} (e1 : h.get? a = some o) (e2 : h.get? b = some o') (hne : o ≠ o') : a ≠ b := by
  rintro rfl
  rw [e1] at e2
  exact hne (Option.some.inj e2)
theorem Fr.same {g h h' : Heap} {L D : Addr} {m : Str → Option Value} (F : Fr g L h m) (hD : D ≠ L) (hg : g.get? D = none) (hs : Heap.SameBut D h h') : Fr g L h' m :=
  ⟨F.ns.sameBut hs (Ne.symm hD), fun b o e => (hs.2 b (fun q => by rw [q, hg] at e; cases e)).trans (F.keep b o e), F.above⟩
theorem Fr.ext {g h h' : Heap} {L D : Addr} {m : Str → Option Value} (F : Fr g L h m) (hD : D ≠ L) (hg : g.get? D = none) (hs : Heap.ExtBut D h h') : Fr g L h' m :=
  ⟨F.ns.extBut hs (Ne.symm hD), fun b o e => hs b o (fun q => by rw [q, hg] at e; cases e) (F.keep b o e), F.above⟩
theorem News.same {g h h' : Heap} {L D : Addr} {o o' : Obj} {l : List (Addr × Obj)} (N : News g L h ((D, o) :: l)) (hne : ∀ p ∈ l, p.1 ≠ D) (hs : Heap.SameBut D h h') (ho : h'.get? D = some o') : News g L h' ((D, o') :: l) := by
  intro p hp
  rcases List.mem_cons.mp hp with rfl | hp
  · exact ⟨ho, (N _ (.head _)).2⟩
  · have z := N p (.tail _ hp)
    exact ⟨(hs.2 _ (hne p hp)).trans z.1, z.2⟩
theorem News.ext {g h h' : Heap} {L D : Addr} {l : List (Addr × Obj)} (N : News g L h l) (hne : ∀ p ∈ l, p.1 ≠ D) (hs : Heap.ExtBut D h h') : News g L h' l :=
  fun p hp => ⟨hs _ _ (hne p hp) (N p hp).1, (N p hp).2⟩
theorem Fr.sub {g h h' : Heap} {L : Addr} {m : Str → Option Value} (F : Fr g L h m) (k : Sub h h') : Fr g L h' m := ⟨F.ns.keeps k, fun b o e => k _ _ (F.keep b o e), F.above⟩
theorem News.keep {g h h' : Heap} {L : Addr} {l : List (Addr × Obj)} (N : News g L h l) (k : Sub h h') : News g L h' l := fun p hp => ⟨k _ _ (N p hp).1, (N p hp).2⟩
theorem News.co {g h : Heap} {L a : Addr} {o : Obj} {l : List (Addr × Obj)} (e : h.get? a = some o ∧ a ≠ L ∧ g.get? a = none) (N : News g L h l) : News g L h ((a, o) :: l) := fa_cons e N
theorem News.cons {g h : Heap} {L a : Addr} {o : Obj} {l : List (Addr × Obj)} (N : News g L h l) (e : h.get? a = some o) (hL : a ≠ L) (hg : g.get? a = none) : News g L h ((a, o) :: l) := by
  intro p hp
  rcases List.mem_cons.mp hp with rfl | hp
  · exact ⟨e, hL, hg⟩
  · exact N p hp
theorem Fr.lt {g h : Heap} {L : Addr} {m : Str → Option Value} (F : Fr g L h m) : L < h.objs.size := F.ns.lt
theorem Fr.szle {g h : Heap} {L : Addr} {m : Str → Option Value} (F : Fr g L h m) : g.objs.size ≤ h.objs.size := Nat.le_of_lt (Nat.lt_of_le_of_lt F.above F.ns.lt)
theorem none_of_size {h : Heap} {a : Addr} (x : h.objs.size ≤ a) : h.get? a = none := by
  cases q : h.get? a with
  | none => rfl
  | some o => exact absurd (Heap.lt_size q) (Nat.not_lt.mpr x)

theorem n0 {g h : Heap} {L a : Addr} {o : Obj} {l : List (Addr × Obj)} (N : News g L h ((a, o) :: l)) : h.get? a = some o := (N _ (.head _)).1
theorem n1 {g h : Heap} {L a : Addr} {o : Obj} {p : Addr × Obj} {l : List (Addr × Obj)} (N : News g L h (p :: (a, o) :: l)) : h.get? a = some o := (N _ (.tail _ (.head _))).1
theorem n2 {g h : Heap} {L a : Addr} {o : Obj} {p p2 : Addr × Obj} {l : List (Addr × Obj)} (N : News g L h (p :: p2 :: (a, o) :: l)) : h.get? a = some o := (N _ (.tail _ (.tail _ (.head _)))).1
theorem n3 {g h : Heap} {L a : Addr} {o : Obj} {p p2 p3 : Addr × Obj} {l : List (Addr × Obj)} (N : News g L h (p :: p2 :: p3 :: (a, o) :: l)) : h.get? a = some o := (N _ (.tail _ (.tail _ (.tail _ (.head _))))).1
structure Iter (prog : Program) (w : World) (src : Heap → Prop) (n : Nat) (item : Nat → Value → Prop) (isI : Nat → Obj → Prop) : Prop where
  item : ∀ (A : Around) (E : Value → Shared → Prop) (Q : Option Value → Shared → Prop) (i : Nat) (it : Addr) (o : Obj) (h : Heap) (gs : Array GenState) (d : Drawn) (t : Nat) (os : OsState), i < n → src h → h.get? it = some o → isI i o →
    (∀ v o' h' t', item i v → isI (i + 1) o' → h'.get? it = some o' → Heap.SameBut it h h' → Q (some v) ⟨h', gs, d, t', os⟩) → wpAny (model prog w) A (pyNext (.ref it)) Q E ⟨h, gs, d, t, os⟩
  done : ∀ (A : Around) (E : Value → Shared → Prop) (Q : Option Value → Shared → Prop) (it : Addr) (o : Obj) (h : Heap) (gs : Array GenState) (d : Drawn) (t : Nat) (os : OsState), A.handled = none → src h → h.get? it = some o → isI n o →
    (∀ h', Heap.ExtBut it h h' → Q none ⟨h', gs, d, t, os⟩) → wpAny (model prog w) A (pyNext (.ref it)) Q E ⟨h, gs, d, t, os⟩
  self : ∀ (A : Around) (E : Value → Shared → Prop) (Q : Value → Shared → Prop) (i : Nat) (it : Addr) (o : Obj) (s : Shared), s.heap.get? it = some o → isI i o → Q (.ref it) s → wpAny (model prog w) A (pyIter (.ref it)) Q E s

noncomputable abbrev rangeIt (x left step : Int) : Obj := { cls := .type "range_iterator", dict := none, data := .fields #[rawInt x, rawInt left, rawInt step], slots := #[] }
theorem Iter.range {prog : Program} {w : World} (a : Int) (n : Nat) : Iter prog w (fun zz => True) n (fun i v => ∃ t, v = .int (a + i) t) (fun i o => o = rangeIt (a + i) (n - i) 1) where
  item := fun A E Q i it o h gs d t os hi zz ho hI k => by
    subst hI
    refine wpAny_pyNext_range_item (x := a + i) (left := n - i) (step := 1) ho (by lia) fun h' hI' hs => k _ _ h' _ ⟨_, rfl⟩ ?_ hI' hs
    have e1 : a + (i : Int) + 1 = a + ((i + 1 : Nat) : Int) := by lia
    have e2 : (n : Int) - (i : Int) - 1 = (n : Int) - ((i + 1 : Nat) : Int) := by lia
    show rangeIt (a + i + 1) (n - i - 1) 1 = _
    rw [e1, e2]
  done := fun A E Q it o h gs d t os hh zz ho hI k => by
    subst hI
    exact wpAny_pyNext_range_end hh (x := a + n) (left := (n : Int) - n) (step := 1) ho (by lia) k
  self := fun A E Q i it o s ho hI q => by
    subst hI
    exact wpAny_pyIter_rangeiter ho q
theorem Iter.list {prog : Program} {w : World} (l : Addr) (xs : Array Value) : Iter prog w (fun h => h.IsList l xs) xs.size (fun i v => xs[i]? = some v) (fun i o => o.cls = .type "list_iterator" ∧ o.data = .fields #[.ref l, .int i 0]) where
  item := fun A E Q i it o h gs d t os hi hs ho hI k => by
    have hx : xs[i]? = some xs[i] := Array.getElem?_eq_getElem hi
    exact wpAny_pyNext_list_item (it := it) (l := l) (i := i) ⟨o, ho, hI⟩ hs hx fun h' ⟨o', ho', hI'⟩ hs' => k _ o' h' _ hx hI' ho' hs'
  done := fun A E Q it o h gs d t os hh hs ho hI k => wpAny_pyNext_list_end hh (it := it) (l := l) (i := xs.size) ⟨o, ho, hI⟩ hs (Array.getElem?_eq_none (Nat.le_refl _)) k
  self := fun A E Q i it o s ho hI q => wpAny_pyIter_listiter (l := l) (i := i) ⟨o, ho, hI⟩ q
theorem Iter.tuple {prog : Program} {w : World} (l : Addr) (xs : Array Value) : Iter prog w (fun h => h.IsTuple l xs) xs.size (fun i v => xs[i]? = some v) (fun i o => o.cls = .type "tuple_iterator" ∧ o.data = .fields #[.ref l, .int i 0]) where
  item := fun A E Q i it o h gs d t os hi hs ho hI k => by
    have hx : xs[i]? = some xs[i] := Array.getElem?_eq_getElem hi
    exact wpAny_pyNext_tuple_item (it := it) (t := l) (i := i) ⟨o, ho, hI⟩ hs hx fun h' ⟨o', ho', hI'⟩ hs' => k _ o' h' _ hx hI' ho' hs'
  done := fun A E Q it o h gs d t os hh hs ho hI k => wpAny_pyNext_tuple_end hh (it := it) (t := l) (i := xs.size) ⟨o, ho, hI⟩ hs (Array.getElem?_eq_none (Nat.le_refl _)) k
  self := fun A E Q i it o s ho hI q => wpAny_pyIter_tupleiter (t := l) (i := i) ⟨o, ho, hI⟩ q

section
variable {prog : Program} {w : World} {A : Around} {d : Drawn} {os : OsState} {g : Heap} {L it : Addr}
inductive Gs (gs : Array GenState) (p : Prop) : Array GenState → Prop
  | mk (h : p) : Gs gs p gs
inductive ForNext (g : Heap) (L it : Addr) (d : Drawn) (os : OsState) (o : Obj) (J : (Str → Option Value) → List (Addr × Obj) → Array GenState → Prop) : Shared → Prop
  | mk (m' : Str → Option Value) (news' : List (Addr × Obj)) (gs' : Array GenState) (h' : Heap) (t' : Nat) (F : Fr g L h' m') (N : News g L h' ((it, o) :: news')) (h1 : ∀ p ∈ news', p.1 ≠ it) (j : J m' news' gs') : ForNext g L it d os o J ⟨h', gs', d, t', os⟩
inductive ForJ (g : Heap) (L it : Addr) (d : Drawn) (os : OsState) (n : Nat) (isI : Nat → Obj → Prop) (J : Nat → (Str → Option Value) → List (Addr × Obj) → Array GenState → Prop) : Nat → Shared → Prop
  | mk (i : Nat) (m : Str → Option Value) (news : List (Addr × Obj)) (gs : Array GenState) (h : Heap) (t : Nat) (o : Obj) (hi : i ≤ n) (j : J i m news gs) (F : Fr g L h m) (N : News g L h ((it, o) :: news)) (hne : ∀ p ∈ news, p.1 ≠ it) (hI : isI i o) :
    ForJ g L it d os n isI J (n - i) ⟨h, gs, d, t, os⟩
theorem loop_for {src : Heap → Prop} {n : Nat} {item : Nat → Value → Prop} {isI : Nat → Obj → Prop} (IT : Iter prog w src n item isI) (hh : A.handled = none)
    {target : Expr} {body orelse : List Stmt} {env : Env} {R : Result → Shared → Prop}
    (J : Nat → (Str → Option Value) → List (Addr × Obj) → Array GenState → Prop)
    (hsrc : ∀ i m news gs h, J i m news gs → Fr g L h m → News g L h news → src h)
    (turn : ∀ i m news gs h t o v, i < n → J i m news gs → item i v → isI (i + 1) o → Fr g L h m → News g L h ((it, o) :: news) → (∀ p ∈ news, p.1 ≠ it) →
      wpAny (model prog w) A (letOwnedTupleGo target (.ref it) v) (fun zz s₁ =>
      wpAny (model prog w) A (assign target env v) (fun zz s₂ => wpAny (model prog w) A (execs body env) (fun f s₃ => match f with
        | .next | .cont => ForNext g L it d os o (J (i + 1)) s₃
        | .brk => R (.ok .next) s₃
        | .ret v => R (.ok (.ret v)) s₃) (fun zz zz => False) s₂) (fun zz zz => False) s₁)
        (fun zz zz => False) ⟨h, gs, d, t, os⟩)
    (fin : ∀ m news gs h t, J n m news gs → Fr g L h m → News g L h news → wpAny (model prog w) A (execs orelse env) (fun f s₃ => R (.ok f) s₃) (fun zz zz => False) ⟨h, gs, d, t, os⟩)
    {m : Str → Option Value} {news : List (Addr × Obj)} {gs : Array GenState} {h : Heap} {t : Nat} {o : Obj}
    (j0 : J 0 m news gs) (F : Fr g L h m) (N : News g L h ((it, o) :: news)) (hne : ∀ p ∈ news, p.1 ≠ it) (i0 : isI 0 o) :
    codeAny (model prog w) A (.forLoop target (.ref it) body orelse env) R ⟨h, gs, d, t, os⟩ := by
  refine codeAny_forLoop_any (ForJ g L it d os n isI J) ?_ (n - 0) (.mk 0 m news gs h t o (Nat.zero_le _) j0 F N hne i0)
  rintro k s ⟨i, m, news, gs, h, t, o, hi, j, F, N, hne, hI⟩
  have hN := N _ (.head _)
  have hs := hsrc i m news gs h j F (News.sub N fun p hp => .tail _ hp)
  rcases Nat.lt_or_ge i n with hlt | hge
  · refine IT.item A _ _ i it o h gs d t os hlt hs hN.1 hI fun v o' h' t' hv hI' ho' hsb => ?_
    refine wpAny_mono (turn i m news gs h' t' o' v hlt j hv hI' (Fr.same F hN.2.1 hN.2.2 hsb) (News.same N hne hsb ho') hne) (fun zz s₁ k1 => wpAny_mono k1 (fun zz s₂ k2 => wpAny_mono k2 (fun f s₃ k3 => ?_) fun zz zz x => x.elim) fun zz zz x => x.elim) fun zz zz x => x.elim
    have nx : ForNext g L it d os o' (J (i + 1)) s₃ → ∃ k', k' < n - i ∧ ForJ g L it d os n isI J k' s₃ := fun ⟨m', news', gs', h'', t'', F', N', hne', j'⟩ => ⟨n - (i + 1), zn (by assumption), .mk (i + 1) m' news' gs' h'' t'' o' (by lia) j' F' N' hne' hI'⟩
    cases f with
    | next => exact nx k3
    | cont => exact nx k3
    | brk => exact k3
    | ret v => exact k3
  · have e : i = n := Nat.le_antisymm hi hge
    subst e
    refine IT.done A _ _ it o h gs d t os hh hs hN.1 hI fun h' hx => ?_
    exact wpAny_mono (fin m news gs h' t j (Fr.ext F hN.2.1 hN.2.2 hx) (News.ext (News.sub N fun p hp => .tail _ hp) hne hx)) (fun zz zz x => x) fun zz zz x => x.elim
end
end Mine
end
-- B4
section
namespace Mine
/-! rules over a state that is written out -/
section
variable {prog : Program} {w : World} {M : Model} {A : Around} {E : Value → Shared → Prop} {h : Heap} {gs : Array GenState} {d : Drawn} {t : Nat} {os : OsState} {g : Heap} {L : Addr} {m : Str → Option Value} {news : List (Addr × Obj)}
  {Q : Value → Shared → Prop} {env : Env} {a b : Int} {u v : Tok}
theorem r_int {i : Int} {k : Nat} {pos : Pos} (q : Q (.int i t) ⟨h, gs, d, t + 1, os⟩) : wpAny M A (eval (.Constant (.int i) k pos) env) Q E ⟨h, gs, d, t, os⟩ := wpAny_Constant_int q
theorem r_str {x : Str} {k : Nat} {pos : Pos} (q : Q (.str x t) ⟨h, gs, d, t + 1, os⟩) : wpAny M A (eval (.Constant (.str x) k pos) env) Q E ⟨h, gs, d, t, os⟩ := fun zz zz zz => q
theorem r_none {k : Nat} {pos : Pos} (q : Q .none ⟨h, gs, d, t, os⟩) : wpAny M A (eval (.Constant .none k pos) env) Q E ⟨h, gs, d, t, os⟩ := fun zz zz zz => q
theorem r_bool {x : Bool} {k : Nat} {pos : Pos} (q : Q (.bool x) ⟨h, gs, d, t, os⟩) : wpAny M A (eval (.Constant (.bool x) k pos) env) Q E ⟨h, gs, d, t, os⟩ := fun zz zz zz => q
theorem r_add (q : Q (.int (a + b) t) ⟨h, gs, d, t + 1, os⟩) : wpAny (model prog w) A (binaryOp .Add (.int a u) (.int b v)) Q E ⟨h, gs, d, t, os⟩ := add_int q
theorem r_sub (q : Q (.int (a - b) t) ⟨h, gs, d, t + 1, os⟩) : wpAny (model prog w) A (binaryOp .Sub (.int a u) (.int b v)) Q E ⟨h, gs, d, t, os⟩ := PyProof.Rows.sub_int q
theorem r_mul (hm : IntMulOk a b) (q : Q (.int (a * b) t) ⟨h, gs, d, t + 1, os⟩) : wpAny (model prog w) A (binaryOp .Mult (.int a u) (.int b v)) Q E ⟨h, gs, d, t, os⟩ := PyProof.Rows.mul_int q hm
theorem r_mod (hb : 0 < b) (q : Q (.int (a % b) t) ⟨h, gs, d, t + 1, os⟩) : wpAny (model prog w) A (binaryOp .Mod (.int a u) (.int b v)) Q E ⟨h, gs, d, t, os⟩ :=
  PyProof.Rows.mod_int (by lia) (by rw [Int.fmod_eq_emod_of_nonneg _ (by lia)]; exact q)
theorem r_pow (hb : 0 ≤ b) (hsz : (Builtin.Int.intBits a : Int) * b ≤ 2 ^ 27) (q : Q (.int (a ^ b.toNat) t) ⟨h, gs, d, t + 1, os⟩) : wpAny (model prog w) A (binaryOp .Pow (.int a u) (.int b v)) Q E ⟨h, gs, d, t, os⟩ := PyProof.Rows.pow_int hb hsz q
theorem r_iadd (q : Q (.int (a + b) t) ⟨h, gs, d, t + 1, os⟩) : wpAny (model prog w) A (inplaceOp .Add (.int a u) (.int b v)) Q E ⟨h, gs, d, t, os⟩ := iadd_int q
theorem r_newList {vs : List Value} (F : Fr g L h m) (N : News g L h news)
    (q : ∀ l h', Fr g L h' m → News g L h' ((l, listOf vs.toArray 0) :: news) → (∀ p ∈ news, p.1 < l) → h.objs.size ≤ l → Q (.ref l) ⟨h', gs, d, t, os⟩) (hsz : vs.length ≤ sizeLine := by size_fits) : wpAny M A (newList vs) Q E ⟨h, gs, d, t, os⟩ :=
  newList_N F N (fun h' F' N' => q _ h' F' N' (fun p hp => Heap.lt_size (N p hp).1) (Nat.le_refl _)) hsz
theorem r_newTuple {vs : List Value} (F : Fr g L h m) (N : News g L h news)
    (q : ∀ l h', Fr g L h' m → News g L h' ((l, { cls := .type "tuple", data := .seq vs.toArray }) :: news) → (∀ p ∈ news, p.1 < l) → h.objs.size ≤ l → Q (.ref l) ⟨h', gs, d, t, os⟩) (hsz : vs.length ≤ sizeLine := by size_fits) : wpAny M A (newTuple vs) Q E ⟨h, gs, d, t, os⟩ :=
  newTuple_N F N (fun h' F' N' => q _ h' F' N' (fun p hp => Heap.lt_size (N p hp).1) (Nat.le_refl _)) hsz

theorem r_div (hb : 0 < b) (hb2 : b < 1073741824) (q : Q (.int (a / b) t) ⟨h, gs, d, t + 1, os⟩) : wpAny (model prog w) A (binaryOp .FloorDiv (.int a u) (.int b v)) Q E ⟨h, gs, d, t, os⟩ :=
  PyProof.Rows.floordiv_int (by lia) (by rw [Int.fdiv_eq_ediv_of_nonneg _ (by lia)]; exact q) (Or.inl (PyProof.noPylong_small (by lia)))
theorem r_and (q : Q (.int (Builtin.bitAnd a b) t) ⟨h, gs, d, t + 1, os⟩) : wpAny (model prog w) A (binaryOp .BitAnd (.int a u) (.int b v)) Q E ⟨h, gs, d, t, os⟩ := PyProof.Rows.and_int q
theorem r_ixor (q : Q (.int (Builtin.bitXor a b) t) ⟨h, gs, d, t + 1, os⟩) : wpAny (model prog w) A (inplaceOp .BitXor (.int a u) (.int b v)) Q E ⟨h, gs, d, t, os⟩ := PyProof.Rows.ixor_int q
theorem r_ior (q : Q (.int (Builtin.bitOr a b) t) ⟨h, gs, d, t + 1, os⟩) : wpAny (model prog w) A (inplaceOp .BitOr (.int a u) (.int b v)) Q E ⟨h, gs, d, t, os⟩ := PyProof.Rows.ior_int q
theorem r_shl (hb : 0 ≤ b) (hb2 : b ≤ 1000000) (ha : a.natAbs < 2 ^ 64) (q : Q (.int (a * 2 ^ b.toNat) t) ⟨h, gs, d, t + 1, os⟩) : wpAny (model prog w) A (binaryOp .LShift (.int a u) (.int b v)) Q E ⟨h, gs, d, t, os⟩ := PyProof.Rows.lshift_int_small hb hb2 ha q
theorem r_ishl (hb : 0 ≤ b) (hb2 : b ≤ 1000000) (ha : a.natAbs < 2 ^ 64) (q : Q (.int (a * 2 ^ b.toNat) t) ⟨h, gs, d, t + 1, os⟩) : wpAny (model prog w) A (inplaceOp .LShift (.int a u) (.int b v)) Q E ⟨h, gs, d, t, os⟩ := PyProof.Rows.ilshift_int_small hb hb2 ha q
theorem r_shr (hb : 0 ≤ b) (q : Q (.int (a / (2 ^ b.toNat)) t) ⟨h, gs, d, t + 1, os⟩) : wpAny (model prog w) A (binaryOp .RShift (.int a u) (.int b v)) Q E ⟨h, gs, d, t, os⟩ :=
  PyProof.Rows.rshift_int hb (by rw [Int.fdiv_eq_ediv_of_nonneg _ (Int.pow_nonneg (by decide))]; exact q)
theorem r_neg (q : Q (.int (-a) t) ⟨h, gs, d, t + 1, os⟩) : wpAny (model prog w) A (unaryOp .USub (.int a u)) Q E ⟨h, gs, d, t, os⟩ := PyProof.Rows.neg_int q
theorem mul_l (h1 : -(2 ^ 64) < a) (h2 : a < 2 ^ 64) : IntMulOk a b := .of_left (intBits_le_64 h1 h2)
theorem r_range1 {n : Int} (F : Fr g L h m) (N : News g L h news)
    (q : ∀ r h' t' u' v', Fr g L h' m → News g L h' ((r, { cls := .type "range", dict := none, data := .fields #[.int 0 t', .int n u', .int 1 v'], slots := #[] }) :: news) → (∀ p ∈ news, p.1 < r) → ∀ tk, Q (.ref r) ⟨h', gs, d, tk, os⟩) :
    wpAny (model prog w) A (call (.type "range") [.int n u] []) Q E ⟨h, gs, d, t, os⟩ :=
  call_range_1 (q h.objs.size _ _ _ _ (F.push _) (News.push F N _) (fun p hp => Heap.lt_size (N p hp).1) _)
theorem r_range2 {a n : Int} (F : Fr g L h m) (N : News g L h news)
    (q : ∀ r h' t' u' v', Fr g L h' m → News g L h' ((r, { cls := .type "range", dict := none, data := .fields #[.int a t', .int n u', .int 1 v'], slots := #[] }) :: news) → (∀ p ∈ news, p.1 < r) → ∀ tk, Q (.ref r) ⟨h', gs, d, tk, os⟩) :
    wpAny (model prog w) A (call (.type "range") [.int a u, .int n v] []) Q E ⟨h, gs, d, t, os⟩ :=
  call_range_2 (q h.objs.size _ _ _ _ (F.push _) (News.push F N _) (fun p hp => Heap.lt_size (N p hp).1) _)
theorem r_iterRange {r : Addr} {a b : Int} {t' u' v' : Tok} (n : Nat) (F : Fr g L h m) (N : News g L h news) (hr : IsRange h r a b 1 t' u' v') (hn : b = a + n) (h1 : -(2 ^ 62) ≤ a) (h2 : b < 2 ^ 62)
    (q : ∀ it h', Fr g L h' m → News g L h' ((it, rangeIt (a + (0 : Nat)) ((n : Int) - (0 : Nat)) 1) :: news) → (∀ p ∈ news, p.1 < it) → Q (.ref it) ⟨h', gs, d, t, os⟩) :
    wpAny (model prog w) A (pyIter (.ref r)) Q E ⟨h, gs, d, t, os⟩ := by
  refine wpAny_pyIter_range hr (small_one h1 (by lia) (by lia) h2) ?_
  have e : Builtin.Range.rangeSize a b 1 = (n : Int) - (0 : Nat) := by rw [rangeSize_one]; split <;> lia
  have e2 : a = a + ((0 : Nat) : Int) := by lia
  have := q h.objs.size (h.push (rangeIt (a + (0 : Nat)) ((n : Int) - (0 : Nat)) 1)) (F.push _) (News.push F N _) (fun p hp => Heap.lt_size (N p hp).1)
  rw [e, show rawInt a = rawInt (a + ((0 : Nat) : Int)) from by rw [← e2]]
  exact this
noncomputable abbrev listIt (l : Addr) (i : Int) : Obj := { cls := .type "list_iterator", data := .fields #[.ref l, .int i 0] }
noncomputable abbrev tupIt (l : Addr) (i : Int) : Obj := { cls := .type "tuple_iterator", data := .fields #[.ref l, .int i 0] }
theorem r_iterList {l : Addr} {xs : Array Value} (F : Fr g L h m) (N : News g L h news) (hl : h.IsList l xs)
    (q : ∀ it h', Fr g L h' m → News g L h' ((it, listIt l 0) :: news) → (∀ p ∈ news, p.1 < it) → Sub h h' → Q (.ref it) ⟨h', gs, d, t, os⟩) :
    wpAny (model prog w) A (pyIter (.ref l)) Q E ⟨h, gs, d, t, os⟩ :=
  wpAny_pyIter_list hl (q h.objs.size _ (F.push _) (News.push F N _) (fun p hp => Heap.lt_size (N p hp).1) fun zz zz e => Heap.get?_push_of_some _ e)
theorem r_iterTuple {l : Addr} {xs : Array Value} (F : Fr g L h m) (N : News g L h news) (hl : h.IsTuple l xs)
    (q : ∀ it h', Fr g L h' m → News g L h' ((it, tupIt l 0) :: news) → (∀ p ∈ news, p.1 < it) → Sub h h' → Q (.ref it) ⟨h', gs, d, t, os⟩) :
    wpAny (model prog w) A (pyIter (.ref l)) Q E ⟨h, gs, d, t, os⟩ :=
  wpAny_pyIter_tuple hl (q h.objs.size _ (F.push _) (News.push F N _) (fun p hp => Heap.lt_size (N p hp).1) fun zz zz e => Heap.get?_push_of_some _ e)
theorem r_append {D : Addr} {its : Array Value} {n : Nat} {x : Value} (F : Fr g L h m) (N : News g L h ((D, listOf its n) :: news)) (hne : ∀ p ∈ news, p.1 ≠ D) (hsz : its.size ≤ sizeLine)
    (q : ∀ h', Fr g L h' m → News g L h' ((D, listOf (its.push x) (n + 1)) :: news) → h'.objs.size = h.objs.size → Q .none ⟨h', gs, d, t, os⟩) : wpAny (model prog w) A (call (.builtin "list.append") [.ref D, x] []) Q E ⟨h, gs, d, t, os⟩ := by
  have hD := N _ (.head _)
  exact append_at (hsz := hsz) hD.1 fun h' hs ho => q h' (Fr.same F hD.2.1 hD.2.2 hs) (News.same N hne hs ho) hs.1
theorem r_listMeth {D : Addr} {its : Array Value} {n : Nat} {name : Str} {id : String} {pl : Sem Bool} {Q : Value × List Value → Shared → Prop} (ho : h.get? D = some (listOf its n)) (slot : Slot "list" name id) (hty : typeOf (.builtin id) = pure (.type "method_descriptor"))
    (q : Q (.builtin id, [.ref D]) ⟨h, gs, d, t, os⟩) : wpAny (model prog w) A (getMethod (.ref D) name pl) Q E ⟨h, gs, d, t, os⟩ :=
  getMethod_builtin ⟨_, ho, rfl⟩ PySem.F.plainAttrs_list slot hty (fun a e => by cases e; exact ⟨_, ho, rfl⟩) q
theorem r_st {x : Str} {v : Value} {Q : Unit → Shared → Prop} (F : Fr g L h m) (N : News g L h news)
    (q : ∀ h', Fr g L h' (fun y => if y = x then some v else m y) → News g L h' news → Q () ⟨h', gs, d, t + 1, os⟩)
    (hL : env.locals = L := by with_unfolding_all rfl) (hk : env.scope.kind = .function := by with_unfolding_all rfl) (hx : env.kindOf x = some .local := by with_unfolding_all rfl) : wpAny M A (storeName env x v) Q E ⟨h, gs, d, t, os⟩ := by
  subst hL
  exact wpAny_storeName_local hx F.ns (fun h' hn hs => q h' (F.set hn hs) (N.set hs)) (by rw [hk]; rfl)
theorem r_stC {c : Addr} {o : Obj} {v₀ : Option Value} {x : Str} {v : Value} {Q : Unit → Shared → Prop} (F : Fr g L h m) (N : News g L h ((c, o) :: news)) (hne : ∀ p ∈ news, p.1 ≠ c) (hd : o.data = .cell v₀)
    (q : ∀ h' o', Fr g L h' m → News g L h' ((c, o') :: news) → o'.data = .cell (some v) → Q () ⟨h', gs, d, t, os⟩)
    (hc : env.cells.lookup x = some c := by with_unfolding_all rfl) (hk : env.scope.kind = .function := by with_unfolding_all rfl) (hx : env.kindOf x = some .cell := by with_unfolding_all rfl) : wpAny M A (storeName env x v) Q E ⟨h, gs, d, t, os⟩ := by
  have hD := N _ (.head _)
  refine wpAny_storeName_cell hk hx hc ⟨o, hD.1, hd⟩ fun h' ⟨o', ho', hd'⟩ hs => ?_
  exact q h' o' (Fr.same F hD.2.1 hD.2.2 hs) (News.same N hne hs ho') hd'
end
end Mine
end
-- B5
section
namespace Mine
theorem bb_range : bootBuiltins "range" = some (.type "range") := by kernel_rfl
theorem bb_sum : bootBuiltins "sum" = some (.builtin "sum") := by kernel_rfl
theorem bb_len : bootBuiltins "len" = some (.builtin "len") := by kernel_rfl
theorem bb_list : bootBuiltins "list" = some (.type "list") := by kernel_rfl
theorem bb_iter : bootBuiltins "iter" = some (.builtin "iter") := by kernel_rfl
theorem bb_next : bootBuiltins "next" = some (.builtin "next") := by kernel_rfl
theorem bb_hex : bootBuiltins "hex" = some (.builtin "hex") := by kernel_rfl
theorem bb_max : bootBuiltins "max" = some (.builtin "max") := by kernel_rfl
theorem bb_min : bootBuiltins "min" = some (.builtin "min") := by kernel_rfl
theorem bb_set : bootBuiltins "set" = some (.type "set") := by kernel_rfl
theorem bb_enumerate : bootBuiltins "enumerate" = some (.type "enumerate") := by kernel_rfl
theorem bb_sorted : bootBuiltins "sorted" = some (.builtin "sorted") := by kernel_rfl
theorem bb_isinstance : bootBuiltins "isinstance" = some (.builtin "isinstance") := by kernel_rfl
theorem bb_tuple : bootBuiltins "tuple" = some (.type "tuple") := by kernel_rfl
theorem bb_str : bootBuiltins "str" = some (.type "str") := by kernel_rfl
theorem bb_super : bootBuiltins "super" = some (.type "super") := by kernel_rfl
theorem bb_StopIteration : bootBuiltins "StopIteration" = some (.type "StopIteration") := by kernel_rfl
theorem mh0 {a : Addr × Obj} {l : List (Addr × Obj)} : a ∈ a :: l := .head _
theorem mh1 {a b : Addr × Obj} {l : List (Addr × Obj)} : a ∈ b :: a :: l := .tail _ mh0
theorem mh2 {a b c : Addr × Obj} {l : List (Addr × Obj)} : a ∈ b :: c :: a :: l := .tail _ mh1
theorem mh3 {a b c d : Addr × Obj} {l : List (Addr × Obj)} : a ∈ b :: c :: d :: a :: l := .tail _ mh2
theorem mt4 {a b c d e : Addr × Obj} {l : List (Addr × Obj)} (h : a ∈ l) : a ∈ b :: c :: d :: e :: l := .tail _ (.tail _ (.tail _ (.tail _ h)))
section
variable {prog : Program} {w : World} {M : Model} {A : Around} {E : Value → Shared → Prop} {s : Shared} {env : Env} {Q : Value → Shared → Prop}
theorem x_Assign {x pos' value pos} {Q : Flow → Shared → Prop}
    (h : wpAny M A (eval value env) (fun v s₁ => wpAny M A (storeName env x v) (fun zz => Q .next) E s₁) E s)
    (hs : swapsWith value (some (.Name x pos')) pos.line env = pure false := by with_unfolding_all rfl) :
    wpAny M A (exec (.Assign [.Name x pos'] value pos) env) Q E s := wpAny_Assign_Name h hs
theorem x_Expr {e pos} {Q : Flow → Shared → Prop} (h : wpAny (model prog w) A (eval e env) (fun zz => Q .next) E s)
    (hi : interactive env = false := by with_unfolding_all rfl) (hs : swapsWith e none pos.line env = pure false := by with_unfolding_all rfl) :
    wpAny (model prog w) A (exec (.Expr e pos) env) Q E s := wpAny_Expr_any h hi hs
theorem x_For {target iter body orelse pos} {Q : Flow → Shared → Prop}
    (h : wpAny M A (eval iter env) (fun x s₁ => wpAny M A (pyIter x) (fun it s₂ =>
      codeAny M A (.forLoop target it body orelse env) (fun r s' => match r with | .ok f => Q f s' | .error e => cameBackBy M A env E e s') s₂) E s₁) E s)
    (hs : ∀ x, foldedSetIterable iter env x = pure x := by intro _; with_unfolding_all rfl) :
    wpAny M A (exec (.For target iter body orelse pos) env) Q E s := wpAny_For h hs
theorem x_Compare {l op r pos}
    (h : wpAny M A (eval l env) (fun a s₁ => wpAny M A (eval r env) (fun b s₂ => wpAny M A (compareOp op a b) Q E s₂) E s₁) E s)
    (hm : behindInMarks op r = false := by with_unfolding_all rfl) : wpAny M A (eval (.Compare l [op] [r] pos) env) Q E s := wpAny_Compare1 h hm
theorem x_isTrueCompare {l op r pos whole} {Q : Bool → Shared → Prop}
    (h : wpAny M A (eval l env) (fun a s₁ => wpAny M A (eval r env) (fun b s₂ => wpAny M A (compareOp op a b)
      (fun c s₃ => wpAny M A (truthy c) Q E s₃) E s₂) E s₁) E s)
    (hm : behindInMarks op r = false := by with_unfolding_all rfl) : wpAny M A (isTrue (.Compare l [op] [r] pos) env whole) Q E s := wpAny_isTrue_Compare1 h hm
noncomputable def plainArg : Expr → Bool
  | .Starred .. => false
  | _ => true
noncomputable def plainFn : Expr → Bool
  | .Attribute .. => false
  | _ => true
noncomputable def plainBase : Expr → Bool
  | .Call .. => false
  | _ => true
theorem starEach_more {e : Expr} {rest : List Expr} (he : plainArg e = true) : starEach (e :: rest) env = (false, eval e env) :: starEach rest env := by
  cases e <;> first | rfl | cases he
theorem starEach_all {args : List Expr} : (args.all plainArg = true) → ∀ pos, (backTo pos (starEach args env)).all (fun x => !x.1) = true := by
  induction args with
  | nil => intro _ _; rfl
  | cons e r ih =>
    intro ha pos
    rw [List.all_cons, Bool.and_eq_true] at ha
    rw [starEach_more ha.1]
    show ((!false) && _) = true
    rw [Bool.not_false, Bool.true_and]
    exact ih ha.2 pos
theorem kwEach_all {kws : List Keyword} : (kws.all (fun k => k.arg.isSome) = true) → ∀ pos, (backToKw pos (keywordEach kws env)).all (fun x => x.1.isSome) = true := by
  induction kws with
  | nil => intro _ _; rfl
  | cons e r ih =>
    intro ha pos
    rw [List.all_cons, Bool.and_eq_true] at ha
    obtain ⟨n, v, p⟩ := e
    show (n.isSome && _) = true
    rw [show n.isSome = true from ha.1, Bool.true_and]
    exact ih ha.2 pos
theorem eval_CallP {func : Expr} {args : List Expr} {kws : List Keyword} {pos : Pos} (hp : plainFn func = true) :
    eval (func.Call args kws pos) env = (do callWith pos (← eval func env) [] (backTo pos (starEach args env)) (backToKw pos (keywordEach kws env))) := by
  cases func <;> first | rfl | cases hp
theorem eval_CallM {o : Expr} {name : Str} {apos pos : Pos} {args : List Expr} {kws : List Keyword} :
    eval ((o.Attribute name apos).Call args kws pos) env = (do
    let ov ← attributeBase o name env (eval o env)
    standAt apos.atName
    methodCall o name apos pos env ov (args.length + kws.length) (backTo pos (starEach args env)) (backToKw pos (keywordEach kws env))) := rfl
theorem base_plain {o : Expr} {attr : Str} {whole : Sem Value} (hp : plainBase o = true) : attributeBase o attr env whole = whole := by
  cases o <;> first | rfl | cases hp
theorem x_Call {func : Expr} {args : List Expr} {kws : List Keyword} {pos : Pos}
    (h : wpAny M A (eval func env) (fun f s₁ => wpAny M A (callWith pos f [] (backTo pos (starEach args env)) (backToKw pos (keywordEach kws env))) Q E s₁) E s)
    (hp : plainFn func = true := by with_unfolding_all rfl) : wpAny M A (eval (func.Call args kws pos) env) Q E s := by rw [eval_CallP hp]; exact wpAny_bind h
theorem mcf {pos : Pos} {args : List Expr} {kws : List Keyword} (ha : (args.all plainArg && kws.all (fun k => k.arg.isSome) && decide (args.length + kws.length + 1 < 30)) = true) :
    methodCallForm (args.length + kws.length) (backTo pos (starEach args env)) (backToKw pos (keywordEach kws env)) = true := by
  simp only [Bool.and_eq_true, decide_eq_true_eq] at ha
  unfold methodCallForm
  rw [starEach_all ha.1.1, kwEach_all ha.1.2]
  simp only [Bool.true_and, decide_eq_true_eq]
  split <;> lia
noncomputable def plOf (o : Expr) (env : Env) : Sem Bool := do return (← importBound o env).getD true
theorem x_Meth {o : Expr} {name : Str} {apos pos : Pos} {args : List Expr} {kws : List Keyword}
    (h : wpAny M A (attributeBase o name env (eval o env)) (fun ov s₁ => wpAny M A (getMethod ov name (plOf o env)) (fun fx s₂ => wpAny M A (callWith pos fx.1 fx.2 (backTo pos (starEach args env)) (backToKw pos (keywordEach kws env))) Q E s₂) E s₁) E s)
    (ha : (args.all plainArg && kws.all (fun k => k.arg.isSome) && decide (args.length + kws.length + 1 < 30)) = true := by with_unfolding_all rfl)
    (hl : (apos.endLine == pos.line) = true := by with_unfolding_all rfl) :
    wpAny M A (eval ((o.Attribute name apos).Call args kws pos) env) Q E s := by
  rw [eval_CallM]
  refine wpAny_bind (wpAny_mono h (fun ov s₁ h₁ => wpAny_bind (wpAny_standAt ?_)) fun zz zz x => x)
  unfold methodCall
  rw [mcf ha]
  show wpAny M A (holding [ov] (getMethod ov name (plOf o env)) >>= _) Q E s₁
  refine wpAny_bind (wpAny_holding (wpAny_mono h₁ (fun fx s₂ h₂ => ?_) fun zz zz x => x))
  obtain ⟨f, first⟩ := fx
  have e : methodCallPos true o env apos pos = pure pos := by unfold methodCallPos; rw [hl]; rfl
  dsimp only
  rw [e]
  exact wpAny_bind (wpAny_pure h₂)
theorem x_base {o : Expr} {attr : Str} (h : wpAny M A (eval o env) Q E s) (hp : plainBase o = true := by with_unfolding_all rfl) : wpAny M A (attributeBase o attr env (eval o env)) Q E s := by rw [base_plain hp]; exact h
theorem any_of_all {α : Type} {p : α → Bool} : ∀ {l : List α}, l.all (fun x => !p x) = true → l.any p = false
  | [], _ => rfl
  | x :: r, h => by
    rw [List.all_cons, Bool.and_eq_true] at h
    rw [List.any_cons, any_of_all h.2, Bool.or_false]
    simpa using h.1
theorem x_cw {pos : Pos} {f : Value} {first : List Value} {args : List Expr} {kws : List Keyword}
    (h : wpAny M A (spliced (backTo pos (starEach args env))) (fun vs s₁ => wpAny M A (evalAll ((backToKw pos (keywordEach kws env)).map (·.2))) (fun ks s₂ => Kp M s₂.heap f ∧
      wpAny M A (call f (first ++ vs) (((backToKw pos (keywordEach kws env)).filterMap (·.1)).zip ks)) Q E s₂) E s₁) E s)
    (ha : (args.all plainArg && kws.all (fun k => k.arg.isSome)) = true := by with_unfolding_all rfl) :
    wpAny M A (callWith pos f first (backTo pos (starEach args env)) (backToKw pos (keywordEach kws env))) Q E s := by
  rw [Bool.and_eq_true] at ha
  have h2 := kwEach_all (env := env) ha.2 pos
  exact callWith_a h (any_of_all (starEach_all ha.1 pos)) h2 (any_of_all (p := fun x : Option Str × Sem Value => x.1.isNone) (by simpa using h2))
theorem x_cwF {pos : Pos} {f : Value} {args : List Expr}
    (h : wpAny M A (spliced (backTo pos (starEach args env))) (fun vs s₁ => Kp M s₁.heap f ∧ wpAny M A (call f vs []) Q E s₁) E s)
    (ha : args.all plainArg = true := by with_unfolding_all rfl) :
    wpAny M A (callWith pos f [] (backTo pos (starEach args env)) (backToKw pos (keywordEach [] env))) Q E s :=
  x_cw (wpAny_mono h (fun zz zz x => evalAll_nil x) fun zz zz x => x) (by rw [ha]; rfl)
theorem x_cwM {pos : Pos} {f v : Value} {args : List Expr}
    (h : wpAny M A (spliced (backTo pos (starEach args env))) (fun vs s₁ => Kp M s₁.heap f ∧ wpAny M A (call f (v :: vs) []) Q E s₁) E s)
    (ha : args.all plainArg = true := by with_unfolding_all rfl) :
    wpAny M A (callWith pos f [v] (backTo pos (starEach args env)) (backToKw pos (keywordEach [] env))) Q E s :=
  x_cw (wpAny_mono h (fun zz zz x => evalAll_nil x) fun zz zz x => x) (by rw [ha]; rfl)
theorem x_kw0 {pos : Pos} {Q : List Value → Shared → Prop} (h : Q [] s) : wpAny M A (evalAll ((backToKw pos (keywordEach [] env)).map (·.2))) Q E s := evalAll_nil h
theorem x_kw1 {name : Str} {value : Expr} {kp : Pos} {rest : List Keyword} {pos : Pos} {Q : List Value → Shared → Prop}
    (h : wpAny M A (eval value env) (fun v s₁ => wpAny M A (evalAll ((backToKw pos (keywordEach rest env)).map (·.2))) (fun vs s₂ => Q (v :: vs) s₂) E s₁) E s) :
    wpAny M A (evalAll ((backToKw pos (keywordEach (⟨some name, value, kp⟩ :: rest) env)).map (·.2))) Q E s := kws_cons h
theorem x_more {e : Expr} {rest : List Expr} {pos : Pos} {Q : List Value → Shared → Prop}
    (h : wpAny M A (eval e env) (fun v s₁ => wpAny M A (spliced (backTo pos (starEach rest env))) (fun vs s₂ => Q (v :: vs) s₂) E s₁) E s)
    (he : plainArg e = true := by with_unfolding_all rfl) : wpAny M A (spliced (backTo pos (starEach (e :: rest) env))) Q E s := spliced_more h (starEach_more he)
end
end Mine
end
-- B6
section
namespace Mine

noncomputable def tests (ifs : List Expr) (env : Env) : Sem Bool := forIn ifs true fun c r => if r = true then do let ok ← isTrue c env (eval c env); pure (ForInStep.yield ok) else pure (ForInStep.yield r)
noncomputable def within (elt : Expr) (gens : List Comprehension) (sc : Scope) (pos : Pos) (depth : Nat) (acc : Value) (env : Env) : Sem Unit :=
  match gens[depth + 1]? with
  | some g' => do
    let x ← eval g'.iter env
    standAt g'.iter.pos
    let x ← if g'.is_async != 0 then foldedIterable g'.iter x else foldedSetIterable g'.iter env x
    let _ ← runOwn (.compStart (.ListComp elt gens sc pos) (depth + 1) (← holding [x] (if g'.is_async != 0 then asyncIter x else pyIter x)) acc env) env
  | none => do let _ ← call (.builtin "list.append") [acc, ← eval elt env]

section
variable {prog : Program} {w : World} {A : Around} {d : Drawn} {os : OsState} {g : Heap} {L it : Addr} {env : Env}
theorem tests_nil {s : Shared} {E : Value → Shared → Prop} {Q : Bool → Shared → Prop} (h : Q true s) : wpAny (model prog w) A (tests [] env) Q E s := by
  unfold tests; rw [List.forIn_nil]; exact wpAny_pure h
theorem tests_one {c : Expr} {s : Shared} {E : Value → Shared → Prop} {Q : Bool → Shared → Prop} (h : wpAny (model prog w) A (isTrue c env (eval c env)) Q E s) : wpAny (model prog w) A (tests [c] env) Q E s := by
  unfold tests
  rw [List.forIn_cons]
  simp only [if_true]
  refine wpAny_bind (wpAny_bind (wpAny_mono h (fun ok s' h' => wpAny_pure ?_) fun zz zz x => x))
  dsimp only
  rw [List.forIn_nil]
  exact wpAny_pure h'

theorem comp_turn {elt : Expr} {gens : List Comprehension} {sc : Scope} {pos : Pos} {depth : Nat} {target iter : Expr} {ifs : List Expr} {acc : Value} (hg : gens[depth]? = some ⟨target, iter, ifs, 0⟩)
    {Q : PySem.Fin → Shared → Prop} {E : Value → Shared → Prop} {s : Shared}
    (h : wpAny (model prog w) A (pyNext (.ref it)) (fun r s₁ => match r with
      | none => Q (.done .next) s₁
      | some v => wpAny (model prog w) A (letOwnedTupleGo target (.ref it) v) (fun zz s₂ => wpAny (model prog w) A (assign target env v) (fun zz s₃ => wpAny (model prog w) A (tests ifs env) (fun ok s₄ =>
          if ok then wpAny (model prog w) A (within elt gens sc pos depth acc env) (fun zz s₅ => Q (.again (.compLoop (.ListComp elt gens sc pos) depth (.ref it) acc env)) s₅) E s₄
          else Q (.again (.compLoop (.ListComp elt gens sc pos) depth (.ref it) acc env)) s₄) E s₃) E s₂) E s₁) E s) :
    wpAny (model prog w) A (compTurn (.ListComp elt gens sc pos) depth (.ref it) acc env) Q E s := by
  unfold compTurn
  dsimp only
  rw [hg]
  dsimp only
  refine wpAny_bind (wpAny_standAt (wpAny_bind ?_))
  show wpAny _ _ (pyNext (.ref it)) _ _ _
  refine wpAny_mono h (fun r s₁ h₁ => ?_) fun zz zz x => x
  cases r with
  | none => exact wpAny_pure h₁
  | some v =>
    refine wpAny_bind (wpAny_mono h₁ (fun zz s₂ h₂ => wpAny_bind (wpAny_mono h₂ (fun zz s₃ h₃ => wpAny_bind (wpAny_mono h₃ (fun ok s₄ h₄ => ?_) fun zz zz x => x)) fun zz zz x => x)) fun zz zz x => x)
    cases ok with
    | false => exact wpAny_pure h₄
    | true =>
      have h₅ := h₄
      simp only [if_true] at h₅ ⊢
      unfold within at h₅
      cases hq : gens[depth + 1]? with
      | none =>
        rw [hq] at h₅
        dsimp only at h₅ ⊢
        refine wpAny_bind (wpAny_mono h₅ (fun zz s₅ x => wpAny_pure x) fun zz zz x => x)
      | some g' =>
        rw [hq] at h₅
        dsimp only at h₅ ⊢
        have key : ∀ (T : Sem Unit) (T' : Sem PySem.Fin) (K : Unit → Sem PySem.Fin), T' = (T >>= K) → wpAny (model prog w) A T (fun u s₅ => wpAny (model prog w) A (K u) Q E s₅) E s₄ → wpAny (model prog w) A T' Q E s₄ := fun T T' K e x => by rw [e]; exact wpAny_bind x
        refine key _ _ (fun zz => again _) ?_ (wpAny_mono h₅ (fun zz s₅ x => wpAny_pure x) fun zz zz x => x)
        by_cases ha : (g'.is_async != 0) = true <;> simp only [ha, if_true, Bool.false_eq_true, if_false, bind_assoc, pure_bind]

inductive CompNext (g : Heap) (D it acc : Addr) (d : Drawn) (os : OsState) (o : Obj) (J : (Str → Option Value) → List Value → List (Addr × Obj) → Array GenState → Prop) : Shared → Prop
  | mk (m' : Str → Option Value) (ys' : List Value) (c' : Nat) (news' : List (Addr × Obj)) (gs' : Array GenState) (h' : Heap) (t' : Nat) (F : Fr g D h' m') (N : News g D h' ((it, o) :: (acc, listOf ys'.toArray c') :: news'))
    (h1 : ∀ p ∈ (acc, listOf ys'.toArray c') :: news', p.1 ≠ it) (h2 : ∀ p ∈ news', p.1 ≠ acc) (j : J m' ys' news' gs') : CompNext g D it acc d os o J ⟨h', gs', d, t', os⟩
inductive CompJ (g : Heap) (D it acc : Addr) (d : Drawn) (os : OsState) (n : Nat) (isI : Nat → Obj → Prop) (J : Nat → (Str → Option Value) → List Value → List (Addr × Obj) → Array GenState → Prop) : Nat → Shared → Prop
  | mk (i : Nat) (m : Str → Option Value) (ys : List Value) (c : Nat) (news : List (Addr × Obj)) (gs : Array GenState) (h : Heap) (t : Nat) (o : Obj) (hi : i ≤ n) (j : J i m ys news gs) (F : Fr g D h m) (N : News g D h ((it, o) :: (acc, listOf ys.toArray c) :: news))
    (hne : ∀ p ∈ (acc, listOf ys.toArray c) :: news, p.1 ≠ it) (hna : ∀ p ∈ news, p.1 ≠ acc) (hI : isI i o) : CompJ g D it acc d os n isI J (n - i) ⟨h, gs, d, t, os⟩
inductive CompEnd (g : Heap) (D acc : Addr) (d : Drawn) (os : OsState) (P : List Value → List (Addr × Obj) → Array GenState → Prop) : Shared → Prop
  | mk (m' : Str → Option Value) (ys : List Value) (c : Nat) (news' : List (Addr × Obj)) (h'' : Heap) (gs' : Array GenState) (t'' : Nat) (F : Fr g D h'' m') (N : News g D h'' ((acc, listOf (List.toArray ys) c) :: news')) (hna : ∀ p ∈ news', p.1 ≠ acc) (hP : P ys news' gs') :
    CompEnd g D acc d os P ⟨h'', gs', d, t'', os⟩
theorem comp_start {elt : Expr} {gens : List Comprehension} {sc : Scope} {pos : Pos} {depth : Nat} {target iter : Expr} {ifs : List Expr} (hg : gens[depth]? = some ⟨target, iter, ifs, 0⟩) {R : Result → Shared → Prop} {acc : Value} {s : Shared}
    (hi : ∀ (E : Value → Shared → Prop) (Q : Value → Shared → Prop), Q (.ref it) s → wpAny (model prog w) A (pyIter (.ref it)) Q E s)
    (loop : codeAny (model prog w) A (.compLoop (.ListComp elt gens sc pos) depth (.ref it) acc env) R s) : codeAny (model prog w) A (.compStart (.ListComp elt gens sc pos) depth (.ref it) acc env) R s := by
  refine codeAny_of_tree ?_
  have hstart : ∀ (Q : PySem.Fin → Shared → Prop) (E : Value → Shared → Prop), Q (.again (.compLoop (.ListComp elt gens sc pos) depth (.ref it) acc env)) s → wpAny (model prog w) A (compStart (.ListComp elt gens sc pos) depth (.ref it) acc env) Q E s := by
    intro Q E q
    unfold compStart
    have e : clausesOf (.ListComp elt gens sc pos) = gens := rfl
    rw [e, hg]
    show wpAny _ _ (ask >>= _) _ _ _
    refine wpAny_bind (wpAny_askSetting ?_)
    split
    · exact wpAny_bind (wpAny_pure (wpAny_pure q))
    · refine wpAny_bind (wpAny_rule (wpAny_bind (wpAny_standAt (wpAny_bind ?_))))
      exact hi _ _ (wpAny_pure q)
  cases depth with
  | zero =>
    show wpAny _ _ ((compStart (.ListComp elt gens sc pos) 0 (.ref it) acc env).onRaise (fun x => do noteFrame x env; standAt theWindowsPlace)) _ _ _
    exact wpAny_notedAt (hstart _ _ ⟨rfl, loop⟩)
  | succ k =>
    show wpAny _ _ ((compStart (.ListComp elt gens sc pos) (k + 1) (.ref it) acc env).onRaise (fun x => do noteFrame x env; standAt theWindowsPlace)) _ _ _
    exact wpAny_notedAt (hstart _ _ ⟨rfl, loop⟩)
theorem comp_loop {D acc : Addr} {src : Heap → Prop} {n : Nat} {item : Nat → Value → Prop} {isI : Nat → Obj → Prop} (IT : Iter prog w src n item isI) (hh : A.handled = none)
    {elt : Expr} {gens : List Comprehension} {sc : Scope} {pos : Pos} {depth : Nat} {target iter : Expr} {ifs : List Expr} (hg : gens[depth]? = some ⟨target, iter, ifs, 0⟩) {R : Result → Shared → Prop}
    (J : Nat → (Str → Option Value) → List Value → List (Addr × Obj) → Array GenState → Prop)
    (hsrc : ∀ i m ys news gs h, J i m ys news gs → Fr g D h m → News g D h news → src h)
    (turn : ∀ i m ys c news gs h t o v, i < n → J i m ys news gs → item i v → isI (i + 1) o → Fr g D h m → News g D h ((it, o) :: (acc, listOf ys.toArray c) :: news) → (∀ p ∈ (acc, listOf ys.toArray c) :: news, p.1 ≠ it) → (∀ p ∈ news, p.1 ≠ acc) →
      wpAny (model prog w) A (letOwnedTupleGo target (.ref it) v) (fun zz s₁ => wpAny (model prog w) A (assign target env v) (fun zz s₂ => wpAny (model prog w) A (tests ifs env) (fun ok s₃ =>
        if ok = true then wpAny (model prog w) A (within elt gens sc pos depth (.ref acc) env) (fun zz s₄ => CompNext g D it acc d os o (J (i + 1)) s₄) (fun zz zz => False) s₃ else CompNext g D it acc d os o (J (i + 1)) s₃) (fun zz zz => False) s₂) (fun zz zz => False) s₁) (fun zz zz => False) ⟨h, gs, d, t, os⟩)
    (fin : ∀ m ys c news gs h t, J n m ys news gs → Fr g D h m → News g D h ((acc, listOf ys.toArray c) :: news) → (∀ p ∈ news, p.1 ≠ acc) → R (.ok .next) ⟨h, gs, d, t, os⟩)
    {m : Str → Option Value} {ys : List Value} {c : Nat} {news : List (Addr × Obj)} {gs : Array GenState} {h : Heap} {t : Nat} {o : Obj}
    (j0 : J 0 m ys news gs) (F : Fr g D h m) (N : News g D h ((it, o) :: (acc, listOf ys.toArray c) :: news)) (hne : ∀ p ∈ (acc, listOf ys.toArray c) :: news, p.1 ≠ it) (hna : ∀ p ∈ news, p.1 ≠ acc) (i0 : isI 0 o) :
    codeAny (model prog w) A (.compStart (.ListComp elt gens sc pos) depth (.ref it) (.ref acc) env) R ⟨h, gs, d, t, os⟩ := by
  have loop : codeAny (model prog w) A (.compLoop (.ListComp elt gens sc pos) depth (.ref it) (.ref acc) env) R ⟨h, gs, d, t, os⟩ := by
    refine codeAny_loop rfl (CompJ g D it acc d os n isI J) ?_ (n - 0) (.mk 0 m ys c news gs h t o (Nat.zero_le _) j0 F N hne hna i0)
    rintro k s ⟨i, m, ys, c, news, gs, h, t, o, hi, j, F, N, hne, hna, hI⟩
    have hN := N _ (.head _)
    have hs := hsrc i m ys news gs h j F (News.sub N fun p hp => .tail _ (.tail _ hp))
    show wpAny _ _ ((compTurn (.ListComp elt gens sc pos) depth (.ref it) (.ref acc) env).onRaise (fun x => do noteFrame x env; theTreesLotGoes x)) _ _ _
    refine wpAny_noted (comp_turn hg ?_)
    rcases Nat.lt_or_ge i n with hlt | hge
    · refine IT.item _ _ _ i it o h gs d t os hlt hs hN.1 hI fun v o' h' t' hv hI' ho' hsb => ?_
      refine wpAny_mono (turn i m ys c news gs h' t' o' v hlt j hv hI' (Fr.same F hN.2.1 hN.2.2 hsb) (News.same N hne hsb ho') hne hna) (fun zz s₁ k1 => wpAny_mono k1 (fun zz s₂ k2 => wpAny_mono k2 (fun ok s₃ k3 => ?_) fun zz zz x => x.elim) fun zz zz x => x.elim) fun zz zz x => x.elim
      have fin2 : ∀ s₄ : Shared, CompNext g D it acc d os o' (J (i + 1)) s₄ → ∃ k', k' < n - i ∧ CompJ g D it acc d os n isI J k' s₄ := fun s₄ ⟨m', ys', c', news', gs', h'', t'', F', N', hne', hna', j'⟩ =>
        ⟨n - (i + 1), zn (by assumption), .mk (i + 1) m' ys' c' news' gs' h'' t'' o' (by lia) j' F' N' hne' hna' hI'⟩
      cases ok with
      | true =>
        rw [if_pos rfl] at k3 ⊢
        exact wpAny_mono k3 (fun zz s₄ x => ⟨rfl, fin2 s₄ x⟩) fun zz zz x => x.elim
      | false =>
        rw [if_neg (by decide)] at k3 ⊢
        exact ⟨rfl, fin2 s₃ k3⟩
    · have e : i = n := Nat.le_antisymm hi hge
      subst e
      refine IT.done _ _ _ it o h gs d t os hh hs hN.1 hI fun h' hx => ?_
      exact fin m ys c news gs h' t j (Fr.ext F hN.2.1 hN.2.2 hx) (News.ext (News.sub N fun p hp => .tail _ hp) hne hx) hna
  exact comp_start hg (fun zz zz q => IT.self _ _ _ 0 it o _ (N _ (.head _)).1 i0 q) loop
end
end Mine
end
-- B7
section
namespace Mine
section
variable {prog : Program} {w : World} {A : Around} {E : Value → Shared → Prop} {d : Drawn} {os : OsState} {g : Heap} {L I : Addr} {env : Env} {Q : Value → Shared → Prop}
  {elt : Expr} {gens : List Comprehension} {sc : Scope} {pos : Pos} {cl : List (Str × Addr)}
noncomputable def CompGo (prog : Program) (w : World) (A : Around) (env : Env) (elt : Expr) (gens : List Comprehension) (sc : Scope) (pos : Pos) (cl : List (Str × Addr)) (Q : Value → Shared → Prop) (E : Value → Shared → Prop) (it : Value) (s : Shared) : Prop :=
  wpAny (model prog w) A (newList []) (fun acc s₃ => wpAny (model prog w) A (newFunctionEnv sc env.globals cl [] env.qual none .none (some env)) (fun cenv s₄ =>
    codeAny (model prog w) A (.compStart (.ListComp elt gens sc pos) 0 it acc { cenv with scope := relabel sc env }) (compPost (model prog w) A E none Q acc cenv.locals) s₄) E s₃) E s

theorem x_LC {s : Shared} {target iter : Expr} {ifs : List Expr} {rest : List Comprehension}
    (h : wpAny (model prog w) A (eval iter env) (fun x s₁ => wpAny (model prog w) A (pyIter x) (fun it s₂ => CompGo prog w A env elt (⟨target, iter, ifs, 0⟩ :: rest) sc pos cl Q E it s₂) E s₁) E s)
    (hclos : closureFor sc env = pure cl := by with_unfolding_all rfl) (hkind : sc.kind = .function := by with_unfolding_all rfl)
    (hnames : (sc.names.all fun x => !decide (x.2 = .local) || decide (sc.names.lookup x.1 = some .local)) = true := by with_unfolding_all rfl)
    (hs : ∀ x, foldedSetIterable iter env x = pure x := by intro _; with_unfolding_all rfl) :
    wpAny (model prog w) A (eval (.ListComp elt (⟨target, iter, ifs, 0⟩ :: rest) sc pos) env) Q E s := by
  rw [eval_ListComp]
  refine wpAny_comprehension_free (cl := cl) rfl hs hclos hkind (fun x hx e => ?_) h
  have := List.all_eq_true.mp hnames x hx
  rw [e] at this
  simpa using this

theorem r_comp {P : List Value → List (Addr × Obj) → Array GenState → Prop} {h : Heap} {gs : Array GenState} {t : Nat} {m : Str → Option Value} {news : List (Addr × Obj)} {oI : Obj}
    (F : Fr g L h m) (N : News g L h ((I, oI) :: news)) (hne : ∀ p ∈ news, p.1 ≠ I)
    (inner : ∀ g' acc D h' t', Sub g g' → (∀ p ∈ news, g'.get? p.1 = some p.2) → g'.Ns L m → g'.objs.size = h.objs.size → Fr g' D h' (fun zz => none) → News g' D h' [(I, oI), (acc, listOf ([] : List Value).toArray 0)] → acc ≠ I →
      codeAny (model prog w) A (.compStart (.ListComp elt gens sc pos) 0 (.ref I) (.ref acc) (compEnvC sc cl D env)) (fun r s' => r = .ok .next ∧ CompEnd g' D acc d os P s') ⟨h', gs, d, t', os⟩)
    (q : ∀ acc ys c news' h'' gs' t'', Fr g L h'' m → News g L h'' ((acc, listOf (List.toArray ys) c) :: (news' ++ news)) → (∀ p ∈ news' ++ news, p.1 ≠ acc) → (∀ p ∈ news', ∀ p' ∈ news, p.1 ≠ p'.1) → h.objs.size ≤ acc → P ys news' gs' → Q (.ref acc) ⟨h'', gs', d, t'', os⟩)
    (hcell : (sc.names.all fun x => !decide (x.2 = .cell)) = true := by with_unfolding_all rfl) (hkind : sc.kind = .function := by with_unfolding_all rfl) :
    CompGo prog w A env elt gens sc pos cl Q E (.ref I) ⟨h, gs, d, t, os⟩ := by
  have hIlt : (I : Nat) < h.objs.size := Heap.lt_size (N _ (.head _)).1
  refine wpAny_newObj_type ?_ (Nat.zero_le _)
  refine wpAny_newFunctionEnv (fun x hx e => by have := List.all_eq_true.mp hcell x hx; rw [e] at this; exact absurd this (by decide)) (by intro y hy; cases hy) (fun h₂ hns hsb => ?_) hkind
  dsimp only at hns hsb ⊢
  generalize hH : h.push { cls := .type "list", dict := none, data := .seq ([] : List Value).toArray } = h₁ at hns hsb ⊢
  have hz : h₁.objs.size = h.objs.size + 1 := by rw [← hH, Heap.size_push]
  have k01 : Sub h h₁ := fun b o e => hH ▸ Heap.get?_push_of_some _ e
  have k12 : Sub h₁ h₂ := fun b o e => hsb.extBut b o (Nat.ne_of_lt (Heap.lt_size e)) (Heap.get?_push_of_some _ e)
  have eacc : h₁.get? h.objs.size = some (listOf ([] : List Value).toArray 0) := by rw [← hH]; exact Heap.get?_push_size _ rfl
  have subh : Sub (h.hide I) h := fun b o e => Heap.of_hide e
  have hgI : g.get? I = none := (N _ (.head _)).2.2
  have sg : Sub g (h.hide I) := fun b o e => (Heap.hide_ne h (fun q => by rw [q, hgI] at e; cases e)).trans (F.keep b o e)
  have hLI : L ≠ I := Ne.symm (N _ (.head _)).2.1
  have nsL : (h.hide I).Ns L m := by
    obtain ⟨oL, es, ep, hL, r⟩ := F.ns
    exact ⟨oL, es, ep, (Heap.hide_ne h hLI).trans hL, r⟩
  have nn : ∀ p ∈ news, (h.hide I).get? p.1 = some p.2 := fun p hp => (Heap.hide_ne h (hne p hp)).trans (N p (.tail _ hp)).1
  have fr : ∀ a, h.objs.size ≤ a → (h.hide I).get? a = none := fun a ha => none_of_size (by rw [Heap.hide_size]; exact ha)
  have F2 : Fr (h.hide I) h₁.objs.size h₂ (fun zz => none) := ⟨hns, fun b o e => k12 _ _ (k01 _ _ (subh b o e)), by rw [Heap.hide_size, hz]; lia⟩
  have N2 : News (h.hide I) h₁.objs.size h₂ [(I, oI), (h.objs.size, listOf ([] : List Value).toArray 0)] := by
    intro p hp
    rcases List.mem_cons.mp hp with rfl | hp
    · exact ⟨k12 _ _ (k01 _ _ (N _ (.head _)).1), by rw [hz]; exact Nat.ne_of_lt (Nat.lt_succ_of_lt hIlt), Heap.hide_self h I⟩
    · rcases List.mem_cons.mp hp with rfl | hp
      · exact ⟨k12 _ _ eacc, by rw [hz]; exact Nat.ne_of_lt (Nat.lt_succ_self _), fr _ (Nat.le_refl _)⟩
      · cases hp
  refine codeAny_mono (inner (h.hide I) h.objs.size h₁.objs.size h₂ _ sg nn nsL (Heap.hide_size h I) F2 N2 (Nat.ne_of_gt hIlt)) ?_
  rintro r s' ⟨rfl, ⟨m', ys, c, news', h'', gs', t'', F', N', hna, hP⟩⟩
  refine ⟨m', F'.ns, fun h3 hs3 => ?_⟩
  have nD : ∀ b o, (h.hide I).get? b = some o → b ≠ h₁.objs.size := fun b o e => by have := Heap.lt_size e; rw [Heap.hide_size] at this; rw [hz]; exact Nat.ne_of_lt (Nat.lt_succ_of_lt this)
  have k3 : Sub (h.hide I) h3 := fun b o e => (hs3.2 b (nD b o e)).trans (F'.keep b o e)
  have N3 : ∀ p ∈ ((h.objs.size, listOf (List.toArray ys) c) :: news'), h3.get? p.1 = some p.2 ∧ (h.hide I).get? p.1 = none := fun p hp => ⟨(hs3.2 _ (N' p hp).2.1).trans (N' p hp).1, (N' p hp).2.2⟩
  have gn : ∀ p ∈ (h.objs.size, listOf (List.toArray ys) c) :: news', p.1 ≠ L ∧ g.get? p.1 = none := fun p hp => by
    have hn := (N3 p hp).2
    refine ⟨fun q => ?_, ?_⟩
    · obtain ⟨oL, es, ep, hL, r⟩ := nsL
      rw [q, hL] at hn; cases hn
    · cases z : g.get? p.1 with
      | none => rfl
      | some o => rw [sg _ _ z] at hn; cases hn
  have ap : ∀ p ∈ (h.objs.size, listOf (List.toArray ys) c) :: news', ∀ p' ∈ news, p.1 ≠ p'.1 := fun p hp p' hp' q => by
    have hn := (N3 p hp).2
    rw [q, nn p' hp'] at hn; cases hn
  refine q h.objs.size ys c news' h3 gs' t'' ⟨nsL.keeps k3, fun b o e => k3 _ _ (sg b o e), F.above⟩ ?_ ?_ (fun p hp p' hp' => ap p (.tail _ hp) p' hp') (Nat.le_refl _) ?_
  · intro p hp
    rcases List.mem_cons.mp hp with rfl | hp
    · exact ⟨(N3 _ (.head _)).1, gn _ (.head _)⟩
    · rcases List.mem_append.mp hp with hp | hp
      · exact ⟨(N3 _ (.tail _ hp)).1, gn _ (.tail _ hp)⟩
      · exact ⟨k3 _ _ (nn p hp), (N p (.tail _ hp)).2⟩
  · intro p hp
    rcases List.mem_append.mp hp with hp | hp
    · exact hna p hp
    · exact Ne.symm (ap _ (.head _) p hp)
  · exact hP
end
end Mine
end
-- B8
section
namespace Mine
section
variable {prog : Program} {w : World} {A : Around} {E : Value → Shared → Prop} {K : Frag} {g : Heap} {mg mb : Str → Option Value} {Q : Value → Shared → Prop}
  {f c : Addr} {name qual : Str} {ar : Arguments} {b : List Stmt} {sc : Scope} {dV kV ct : Value} {args : List Value} {kw : List (Str × Value)} {binds : List (Str × Value)} {W : List (Addr × Obj)}
  {h : Heap} {gs : Array GenState} {d : Drawn} {t : Nat} {os : OsState}
theorem call_fnC (am : A.depth < recursionLimit) (hF : FnK K f name qual ar b sc [] dV kV c ct) (G : Gd K mg mb g) (sub : Sub g h) (sz : g.objs.size ≤ h.objs.size)
    (hW : ∀ p ∈ W, h.get? p.1 = some p.2 ∧ g.get? p.1 = none)
    (hbind : ∀ pm, BindsTo ⟨h, gs, d, t, os⟩ (fnX name qual ar b sc [] dV kV .none pm none (.ref c) ct) ⟨args, kw⟩ binds)
    (q : ∀ L h₁ t₁ cells, Fr g L h₁ (bindL (envX qual sc L f (.ref c) (cellsFrom (L + 1) sc.names [])).kindOf binds fun zz => none) → News g L h₁ (cells ++ W) →
      CellsAre (bindC (envX qual sc L f (.ref c) (cellsFrom (L + 1) sc.names [])).kindOf binds fun zz => none) (cellsFrom (L + 1) sc.names []) cells → (∀ p ∈ W, p.1 < L) → Sub h h₁ → h.objs.size ≤ L →
      wpAny (model prog w) (A.deeper (envX qual sc L f (.ref c) (cellsFrom (L + 1) sc.names []))) (execs b (envX qual sc L f (.ref c) (cellsFrom (L + 1) sc.names [])))
        (fun fl s' => Q (match fl with | .ret v => v | _ => .none) s') (fun zz zz => False) ⟨h₁, gs, d, t₁, os⟩)
    (hkind : (binds.all fun y => sc.names.lookup y.1 == some .local || sc.names.lookup y.1 == some .cell) = true := by with_unfolding_all rfl)
    (hnd : decide ((cellsFrom 0 sc.names []).map (·.1)).Nodup = true := by with_unfolding_all rfl)
    (hco : sc.isCoroutine = false := by with_unfolding_all rfl) (hgen : sc.isGenerator = false := by with_unfolding_all rfl) (hk : sc.kind = .function := by with_unfolding_all rfl) :
    wpAny (model prog w) A (call (.ref f) args kw) Q E ⟨h, gs, d, t, os⟩ := by
  obtain ⟨⟨pm, ho⟩, hcd⟩ := hF
  have X := G.X.keeps sub
  refine wpAny_call (codeAny_call_function am (X _ _ ho) rfl hco hgen rfl (codeRec_of X hcd) (hbind pm _ _ _ _ ?_))
  refine wpAny_newFunctionEnv_cells hk (kindsX hkind _) fun env' he s' x => ?_
  subst he
  refine ⟨(G.nl.keeps sub).keeps x.toInCall.keep, codeAny_func ?_⟩
  obtain ⟨h₁, tk, rfl, _⟩ := x.done
  have hk₁ := x.toInCall.keep
  obtain ⟨cells, NC, Y⟩ := Cl.news (h₀ := h) (Nat.le_refl _) fun n c hm => ⟨x.cell n c (lookup_of_mem_nodup (cellsFrom_names sc.names 0 (h.objs.size + 1) [] [] rfl ▸ of_decide_eq_true hnd) hm), x.above n c hm⟩
  refine wpAny_mono (q h.objs.size h₁ tk cells ⟨x.toInCall.ns, fun b o e => hk₁ b o (sub b o e), sz⟩ (fun p hp => ?_) Y (fun p hp => Heap.lt_size (hW p hp).1) hk₁ (Nat.le_refl _)) (fun fl s' hl => hl) fun zz zz y => y.elim
  rcases List.mem_append.mp hp with hp | hp
  · refine ⟨(NC p hp).1, (NC p hp).2.1, ?_⟩
    cases z : g.get? p.1 with
    | none => rfl
    | some o => have := sub _ _ z; rw [(NC p hp).2.2] at this; cases this
  · exact ⟨hk₁ _ _ (hW p hp).1, Nat.ne_of_lt (Heap.lt_size (hW p hp).1), (hW p hp).2⟩
end
end Mine
namespace Mine
section
variable {prog : Program} {w : World} {A : Around} {E : Value → Shared → Prop} {d : Drawn} {os : OsState} {g : Heap} {L I : Addr} {env : Env} {Q : Value → Shared → Prop}
  {elt : Expr} {rest : List Comprehension} {sc : Scope} {pos : Pos} {cl : List (Str × Addr)} {target iter : Expr} {ifs : List Expr}
theorem r_compFor {src : Heap → Prop} {n : Nat} {item : Nat → Value → Prop} {isI : Nat → Obj → Prop} (IT : Iter prog w src n item isI) (hh : A.handled = none)
    {h : Heap} {gs : Array GenState} {t : Nat} {m : Str → Option Value} {news : List (Addr × Obj)} {oI : Obj}
    (F : Fr g L h m) (N : News g L h ((I, oI) :: news)) (hne : ∀ p ∈ news, p.1 ≠ I) (i0 : isI 0 oI)
    (J : Nat → (Str → Option Value) → List Value → List (Addr × Obj) → Array GenState → Prop) (j0 : J 0 (fun zz => none) [] [] gs)
    (inner : ∀ g' acc D, Sub g g' → (∀ p ∈ news, g'.get? p.1 = some p.2) → g'.Ns L m → g'.objs.size = h.objs.size →
      (∀ h', Sub g' h' → src h') ∧
      (∀ i m ys c news gs h t o v, i < n → J i m ys news gs → item i v → isI (i + 1) o → Fr g' D h m → News g' D h ((I, o) :: (acc, listOf (List.toArray ys) c) :: news) → (∀ p ∈ (acc, listOf (List.toArray ys) c) :: news, p.1 ≠ I) → (∀ p ∈ news, p.1 ≠ acc) →
        wpAny (model prog w) A (letOwnedTupleGo target (.ref I) v) (fun zz s₁ => wpAny (model prog w) A (assign target (compEnvC sc cl D env) v) (fun zz s₂ => wpAny (model prog w) A (tests ifs (compEnvC sc cl D env)) (fun ok s₃ =>
          if ok = true then wpAny (model prog w) A (within elt (⟨target, iter, ifs, 0⟩ :: rest) sc pos 0 (.ref acc) (compEnvC sc cl D env)) (fun zz s₄ => CompNext g' D I acc d os o (J (i + 1)) s₄) (fun zz zz => False) s₃
          else CompNext g' D I acc d os o (J (i + 1)) s₃) (fun zz zz => False) s₂) (fun zz zz => False) s₁) (fun zz zz => False) ⟨h, gs, d, t, os⟩))
    (q : ∀ acc ys c news' h'' gs' t'' m', J n m' ys news' gs' → Fr g L h'' m → News g L h'' ((acc, listOf (List.toArray ys) c) :: (news' ++ news)) → (∀ p ∈ news' ++ news, p.1 ≠ acc) → (∀ p ∈ news', ∀ p' ∈ news, p.1 ≠ p'.1) → h.objs.size ≤ acc → Q (.ref acc) ⟨h'', gs', d, t'', os⟩)
    (hcell : (sc.names.all fun x => !decide (x.2 = .cell)) = true := by with_unfolding_all rfl) (hkind : sc.kind = .function := by with_unfolding_all rfl) :
    CompGo prog w A env elt (⟨target, iter, ifs, 0⟩ :: rest) sc pos cl Q E (.ref I) ⟨h, gs, d, t, os⟩ := by
  refine r_comp (P := fun ys news' gs' => ∃ m', J n m' ys news' gs') F N hne ?_ (fun acc ys c news' h'' gs' t'' F' N' h1 h2 h3 ⟨m', hP⟩ => q acc ys c news' h'' gs' t'' m' hP F' N' h1 h2 h3) hcell hkind
  intro g' acc D h' t' sg kN nsL hsz F' N' hai
  obtain ⟨hsrc, turn⟩ := inner g' acc D sg kN nsL hsz
  refine comp_loop IT hh rfl J (fun zz zz zz zz zz h j F zz => hsrc h F.keep) turn ?_ j0 F' N' ?_ ?_ i0
  · intro m ys c news gs h t j F N hna
    exact ⟨rfl, .mk m ys c news h gs t F N hna ⟨m, j⟩⟩
  · intro p hp
    rcases List.mem_cons.mp hp with rfl | hp
    · exact hai
    · cases hp
  · intro p hp; cases hp
theorem r_emit {acc : Addr} {h : Heap} {gs : Array GenState} {t : Nat} {gens : List Comprehension} {depth : Nat} {Q : Unit → Shared → Prop} (hg : gens[depth + 1]? = none)
    (h1 : wpAny (model prog w) A (eval elt env) (fun y s => wpAny (model prog w) A (call (.builtin "list.append") [.ref acc, y]) (fun zz s => Q () s) E s) E ⟨h, gs, d, t, os⟩) :
    wpAny (model prog w) A (within elt gens sc pos depth (.ref acc) env) Q E ⟨h, gs, d, t, os⟩ := by
  unfold within
  rw [hg]
  exact wpAny_bind (wpAny_mono h1 (fun y s x => wpAny_bind (wpAny_mono x (fun zz zz z => wpAny_pure z) fun zz zz z => z)) fun zz zz z => z)
end
end Mine
end
-- B9
section
namespace Mine
section
variable {prog : Program} {w : World} {A : Around} {E : Value → Shared → Prop} {h : Heap} {gs : Array GenState} {d : Drawn} {t : Nat} {os : OsState} {Q : Value → Shared → Prop} {value slice : Expr}
theorem isL {l : Addr} {its : Array Value} {n : Nat} (e : h.get? l = some (listOf its n)) : h.IsList l its := ⟨_, e, rfl, _, rfl⟩
theorem r_subL {l : Addr} {its : Array Value} {n : Nat} {k : Int} {u : Tok} {x : Value} (e : h.get? l = some (listOf its n)) (h0 : 0 ≤ k) (h1 : k < 2 ^ 63) (hx : its[k.toNat]? = some x) (q : Q x ⟨h, gs, d, t, os⟩)
    (hs : subscripted slice false (.ref l) (.int k u) = operate [.ref l, .int k u] (getItem (.ref l) (.int k u)) := by with_unfolding_all rfl) :
    wpAny (model prog w) A (subscriptTail value slice (.ref l) (.int k u)) Q E ⟨h, gs, d, t, os⟩ :=
  tail_any (isL e).typeIs slot_list_getitem.lookup (wpAny_getItem_list (isL e) h0 h1 hx q) hs
theorem r_subLn {l : Addr} {its : Array Value} {n : Nat} {k : Int} {u : Tok} {x : Value} (e : h.get? l = some (listOf its n)) (h0 : k < 0) (h1 : -(its.size : Int) ≤ k) (h2 : -(2 ^ 63) ≤ k) (hx : its[(k + its.size).toNat]? = some x) (q : Q x ⟨h, gs, d, t, os⟩)
    (hs : subscripted slice false (.ref l) (.int k u) = operate [.ref l, .int k u] (getItem (.ref l) (.int k u)) := by with_unfolding_all rfl) :
    wpAny (model prog w) A (subscriptTail value slice (.ref l) (.int k u)) Q E ⟨h, gs, d, t, os⟩ :=
  tail_any (isL e).typeIs slot_list_getitem.lookup (wpAny_getItem_list_neg (isL e) h0 h1 h2 hx q) hs
noncomputable abbrev tupO (vs : List Value) : Obj := { cls := .type "tuple", data := .seq vs.toArray }
theorem isT {l : Addr} {vs : List Value} (e : h.get? l = some (tupO vs)) : IsTup h l vs.toArray := ⟨_, e, rfl, _, rfl⟩
theorem r_subT {l : Addr} {vs : List Value} {k : Int} {u : Tok} {x : Value} (e : h.get? l = some (tupO vs)) (h0 : 0 ≤ k) (h1 : k < 2 ^ 63) (hx : vs[k.toNat]? = some x) (q : Q x ⟨h, gs, d, t, os⟩)
    (hs : subscripted slice false (.ref l) (.int k u) = operate [.ref l, .int k u] (getItem (.ref l) (.int k u)) := by with_unfolding_all rfl) :
    wpAny (model prog w) A (subscriptTail value slice (.ref l) (.int k u)) Q E ⟨h, gs, d, t, os⟩ :=
  item_tupleT (isT e) (by lia) h1 (seqIndex_of h0 (by have := (List.getElem?_eq_some_iff.mp hx).1; lia)) hx q hs
theorem r_subS {x : Str} {tx : Tok} {k : Int} {u : Tok} {c : Nat} (h0 : 0 ≤ k) (h1 : k < 2 ^ 63) (hx : x.cps[k.toNat]? = some c) (q : Q (.str ⟨#[c]⟩ t) ⟨h, gs, d, t + 1, os⟩)
    (hs : subscripted slice false (.str x tx) (.int k u) = operate [.str x tx, .int k u] (getItem (.str x tx) (.int k u)) := by with_unfolding_all rfl) :
    wpAny (model prog w) A (subscriptTail value slice (.str x tx) (.int k u)) Q E ⟨h, gs, d, t, os⟩ := by
  refine tail_any (typeIs_str _ _ _) PySem.F.slot_str_getitem.lookup (PyProof.Rows.getItem_str ?_ ?_ q) hs
  · simp; lia
  · rw [seqIndex_of h0 (by have := (Array.getElem?_eq_some_iff.mp hx).1; show k < (x.cps.size : Int); lia)]; exact hx
theorem r_mulS {x : Str} {tx : Tok} {n : Int} {u : Tok} (h0 : 0 ≤ n) (h1 : n ≤ 1) (q : ∀ t' k, Q (.str (if n = 0 then Str.empty else x) t') ⟨h, gs, d, k, os⟩) : wpAny (model prog w) A (binaryOp .Mult (.str x tx) (.int n u)) Q E ⟨h, gs, d, t, os⟩ := by
  have hn : n = 0 ∨ n = 1 := by lia
  rcases hn with rfl | rfl
  · exact SB.mul ⟨by decide, fun h => absurd (by decide) h, fun h => absurd (by decide) h⟩ fun t' k => q t' k
  · exact SB.mul ⟨by decide, fun zz h => absurd h (by simp), fun zz h => absurd h (by simp)⟩ fun t' k => q t' k
end
end Mine
namespace Mine
section
variable {prog : Program} {w : World} {A : Around} {E : Value → Shared → Prop} {h : Heap} {gs : Array GenState} {d : Drawn} {t : Nat} {os : OsState} {env : Env}
end
end Mine
namespace Mine
theorem ne_cons {p : Addr × Obj} {l : List (Addr × Obj)} {a : Addr} (h : p.1 ≠ a) (t : ∀ q ∈ l, q.1 ≠ a) : ∀ q ∈ p :: l, q.1 ≠ a := by
  intro q hq
  rcases List.mem_cons.mp hq with rfl | hq
  · exact h
  · exact t q hq
theorem ne_nil {a : Addr} : ∀ q ∈ ([] : List (Addr × Obj)), q.1 ≠ a := fun zz h => nomatch h
theorem lt_ne {l : List (Addr × Obj)} {a : Addr} (h : ∀ q ∈ l, q.1 < a) : ∀ q ∈ l, q.1 ≠ a := fun q hq => Nat.ne_of_lt (h q hq)
theorem pm_cons {a : Addr × Obj} {l M : List (Addr × Obj)} (h : a ∈ M) (t : ∀ p ∈ l, p ∈ M) : ∀ p ∈ a :: l, p ∈ M := by
  intro q hq
  rcases List.mem_cons.mp hq with rfl | hq
  · exact h
  · exact t q hq
theorem pm_tail {a : Addr × Obj} {l M : List (Addr × Obj)} (t : ∀ p ∈ l, p ∈ M) : ∀ p ∈ l, p ∈ a :: M := fun p hp => .tail _ (t p hp)
theorem pm_id {l : List (Addr × Obj)} : ∀ p ∈ l, p ∈ l := fun zz h => h
theorem pm_nil {M : List (Addr × Obj)} : ∀ p ∈ ([] : List (Addr × Obj)), p ∈ M := fun zz h => nomatch h
theorem pm_app {l l' M : List (Addr × Obj)} (h : ∀ p ∈ l, p ∈ M) (t : ∀ p ∈ l', p ∈ M) : ∀ p ∈ l ++ l', p ∈ M := fun p hp => (List.mem_append.mp hp).elim (h p) (t p)
theorem pm_left {l M M' : List (Addr × Obj)} (h : ∀ p ∈ l, p ∈ M) : ∀ p ∈ l, p ∈ M ++ M' := fun p hp => List.mem_append_left _ (h p hp)
end Mine
namespace Mine
theorem cnext {g : Heap} {D it acc : Addr} {d : Drawn} {os : OsState} {o : Obj} {J : (Str → Option Value) → List Value → List (Addr × Obj) → Array GenState → Prop}
    {m' : Str → Option Value} {ys' : List Value} {c' : Nat} {news' : List (Addr × Obj)} {gs' : Array GenState} {h' : Heap} {t' : Nat}
    (F : Fr g D h' m') (N : News g D h' ((it, o) :: (acc, listOf ys'.toArray c') :: news')) (h1 : ∀ p ∈ (acc, listOf ys'.toArray c') :: news', p.1 ≠ it) (h2 : ∀ p ∈ news', p.1 ≠ acc) (j : J m' ys' news' gs') :
    CompNext g D it acc d os o J ⟨h', gs', d, t', os⟩ := ⟨m', ys', c', news', gs', h', t', F, N, h1, h2, j⟩
theorem News.swap {g h : Heap} {L : Addr} {a b : Addr × Obj} {l : List (Addr × Obj)} (N : News g L h (a :: b :: l)) : News g L h (b :: a :: l) := News.sub N (pm_cons (.tail _ (.head _)) (pm_cons (.head _) (pm_tail (pm_tail pm_id))))
inductive PlainJ (gs : Array GenState) (P : Nat → List Value → Prop) (i : Nat) (m : Str → Option Value) (ys : List Value) : List (Addr × Obj) → Array GenState → Prop
  | mk (h : P i ys) : PlainJ gs P i m ys [] gs
section
variable {prog : Program} {w : World} {A : Around} {E : Value → Shared → Prop} {d : Drawn} {os : OsState} {g : Heap} {L I D it acc : Addr} {env : Env} {Q : Value → Shared → Prop} {gs : Array GenState} {P : Nat → List Value → Prop}
  {elt : Expr} {rest : List Comprehension} {sc : Scope} {pos : Pos} {cl : List (Str × Addr)} {target iter : Expr} {ifs : List Expr} {h : Heap} {t i c : Nat} {m : Str → Option Value} {o : Obj} {ys : List Value}
theorem pnext (F : Fr g D h m) (N : News g D h [(it, o), (acc, listOf ys.toArray c)]) (hai : acc ≠ it) (p : P (i + 1) ys) : CompNext g D it acc d os o (PlainJ gs P (i + 1)) ⟨h, gs, d, t, os⟩ :=
  cnext F N (ne_cons (p := (acc, _)) hai ne_nil) ne_nil ⟨p⟩
theorem papp {y : Value} (F : Fr g D h m) (N : News g D h [(it, o), (acc, listOf ys.toArray c)]) (hai : acc ≠ it) (hsz : ys.length ≤ sizeLine) (p : P (i + 1) (ys ++ [y])) :
    wpAny (model prog w) A (call (.builtin "list.append") [.ref acc, y] []) (fun zz s => CompNext g D it acc d os o (PlainJ gs P (i + 1)) s) E ⟨h, gs, d, t, os⟩ := by
  refine r_append F (News.sub N (pm_cons (.tail _ (.head _)) (pm_cons (.head _) pm_nil))) (ne_cons (p := (it, o)) (Ne.symm hai) ne_nil) hsz fun h' F' N' zz => ?_
  rw [List.push_toArray] at N'
  exact pnext F' (News.sub N' (pm_cons (.tail _ (.head _)) (pm_cons (.head _) pm_nil))) hai p
theorem r_compForP {src : Heap → Prop} {n : Nat} {item : Nat → Value → Prop} {isI : Nat → Obj → Prop} (IT : Iter prog w src n item isI) (hh : A.handled = none) {news : List (Addr × Obj)} {oI : Obj}
    (F : Fr g L h m) (N : News g L h ((I, oI) :: news)) (hne : ∀ p ∈ news, p.1 ≠ I) (i0 : isI 0 oI) (P : Nat → List Value → Prop) (p0 : P 0 [])
    (inner : ∀ g' acc D, Sub g g' → (∀ p ∈ news, g'.get? p.1 = some p.2) → g'.Ns L m → g'.objs.size = h.objs.size →
      (∀ h', Sub g' h' → src h') ∧
      (∀ i m ys c h t o v, i < n → P i ys → Fr g' D h m → News g' D h [(I, o), (acc, listOf (List.toArray ys) c)] → acc ≠ I → isI (i + 1) o → item i v →
        wpAny (model prog w) A (letOwnedTupleGo target (.ref I) v) (fun zz s₁ => wpAny (model prog w) A (assign target (compEnvC sc cl D env) v) (fun zz s₂ => wpAny (model prog w) A (tests ifs (compEnvC sc cl D env)) (fun ok s₃ =>
          if ok = true then wpAny (model prog w) A (within elt (⟨target, iter, ifs, 0⟩ :: rest) sc pos 0 (.ref acc) (compEnvC sc cl D env)) (fun zz s₄ => CompNext g' D I acc d os o (PlainJ gs P (i + 1)) s₄) (fun zz zz => False) s₃
          else CompNext g' D I acc d os o (PlainJ gs P (i + 1)) s₃) (fun zz zz => False) s₂) (fun zz zz => False) s₁) (fun zz zz => False) ⟨h, gs, d, t, os⟩))
    (q : ∀ acc ys c h'' t'', P n ys → Fr g L h'' m → News g L h'' ((acc, listOf (List.toArray ys) c) :: news) → (∀ p ∈ news, p.1 ≠ acc) → h.objs.size ≤ acc → Q (.ref acc) ⟨h'', gs, d, t'', os⟩)
    (hcell : (sc.names.all fun x => !decide (x.2 = .cell)) = true := by with_unfolding_all rfl) (hkind : sc.kind = .function := by with_unfolding_all rfl) :
    CompGo prog w A env elt (⟨target, iter, ifs, 0⟩ :: rest) sc pos cl Q E (.ref I) ⟨h, gs, d, t, os⟩ := by
  refine r_compFor IT hh F N hne i0 (PlainJ gs P) ⟨p0⟩ ?_ ?_ hcell hkind
  · intro g' acc D sg kN nsL hsz
    obtain ⟨a, b⟩ := inner g' acc D sg kN nsL hsz
    refine ⟨a, ?_⟩
    intro i m ys c news gs' h t o v hi zq11 hv hI F N hne hna
    obtain ⟨hP⟩ := zq11
    exact b i m ys c h t o v hi hP F N (hne _ (.head _)) hI hv
  · intro acc ys c news' h'' gs' t'' m' zq8 F N hna hap hacc
    obtain ⟨hP⟩ := zq8
    exact q acc ys c h'' t'' hP F N hna hacc
end
end Mine
end
-- B18
section
namespace Mine
section
variable {prog : Program} {w : World} {M : Model} {A : Around} {E : Value → Shared → Prop} {h g : Heap} {L : Addr} {m : Str → Option Value} {news : List (Addr × Obj)} {gs : Array GenState} {d : Drawn} {t : Nat} {os : OsState} {env : Env}
theorem r_asTup {tp : Addr} {vs : List Value} {elts : List Expr} {x1 : Nat} {pos : Pos} {Q : Unit → Shared → Prop} (hh : A.handled = none) (F : Fr g L h m) (N : News g L h news) (ht : h.get? tp = some (tupO vs))
    (q : ∀ h', Fr g L h' m → News g L h' news → Sub h h' → wpAny (model prog w) A (assignInOrder ((assignEach elts env).map (·.2)) vs) Q E ⟨h', gs, d, t, os⟩)
    (hn : ((assignEach elts env).length == vs.length) = true := by with_unfolding_all rfl) (hstar : (assignEach elts env).findIdx? (·.1) = none := by with_unfolding_all rfl) :
    wpAny (model prog w) A (assign (.Tuple elts x1 pos) env (.ref tp)) Q E ⟨h, gs, d, t, os⟩ := by
  refine wpAny_assign_Tuple (items := vs.toArray) hh ⟨_, ht, rfl, _, rfl⟩ (by simpa using hn) hstar fun h' hx => ?_
  have k : Sub h h' := fun b o e => hx b o (Nat.ne_of_lt (Heap.lt_size e)) e
  exact q h' (Fr.sub F k) (News.keep N k) k
theorem x_ord {x : Str} {pos : Pos} {rest : List Expr} {v : Value} {vs : List Value} {s : Shared} {Q : Unit → Shared → Prop}
    (h1 : wpAny M A (storeName env x v) (fun zz s => wpAny M A (assignInOrder ((assignEach rest env).map (·.2)) vs) Q E s) E s) :
    wpAny M A (assignInOrder ((assignEach (.Name x pos :: rest) env).map (·.2)) (v :: vs)) Q E s := wpAny_assignInOrder_more (wpAny_assign_Name h1)
theorem x_ord0 {s : Shared} {Q : Unit → Shared → Prop} (h1 : Q () s) : wpAny M A (assignInOrder ((assignEach [] env).map (·.2)) []) Q E s := wpAny_pure h1
end
end Mine
end
-- B10
section
open PySem.Builtin
namespace Mine
noncomputable abbrev accO (dx : Addr) (its : Array Value) (n : Nat) : Obj := { cls := .ref 164, dict := some dx, data := .seq its n, slots := #[] }
structure Acc (h : Heap) (x dx : Addr) (its : Array Value) (n : Nat) (od : Obj) : Prop where
  at_ : h.get? x = some (accO dx its n)
  dict : h.get? dx = some od
theorem Acc.inst {h : Heap} {x dx : Addr} {its : Array Value} {n : Nat} {od : Obj} (I : Acc h x dx its n od) : InstAt h x (accO dx its n) 164 (some od) := ⟨I.at_, rfl, rfl, I.dict⟩
structure ClsK (K : Frag) : Prop where
  cls : ∃ cd, clsIn K 164 = some cd ∧ cd.mro = [.ref 164, .type "list", .type "object"] ∧ cd.hasDict = true
  isList : mroIn K 164 (.type "list") = some true
  noSeq : noSeq K 164 = true
  ga : findIn K (.ref 164) "__getattribute__" = some (some (.builtin "list.__getattribute__"))
  gat : findIn K (.ref 164) "__getattr__" = some none
  append : findIn K (.ref 164) "append" = some (some (.builtin "list.append"))
  iter : findIn K (.ref 164) "__iter__" = some (some (.builtin "list.__iter__"))
  getitem : findIn K (.ref 164) "__getitem__" = some (some (.builtin "list.__getitem__"))
  setitem : findIn K (.ref 164) "__setitem__" = some (some (.builtin "list.__setitem__"))
  setattr : findIn K (.ref 164) "__setattr__" = some (some (.builtin "object.__setattr__"))
theorem Acc.isList {M : Model} {K : Frag} {h : Heap} {x dx : Addr} {its : Array Value} {n : Nat} {od : Obj} (I : Acc h x dx its n od) (X : K.In h) (C : ClsK K) : Looks M h (isInstance (.ref x) (.type "list")) true :=
  I.inst.type.andThen (looks_mroIn X C.isList)
theorem check_meth {M : Model} {A : Around} {E : Value → Shared → Prop} {s : Shared} {i owner n : String} {self : Value} {rest : List Value} {kw : List (Str × Value)} {Q : Unit → Shared → Prop}
    (hk : builtinKind i = some .method) (hs : splitId i = some (owner, n)) (hi : Looks M s.heap (isInstance self (.type owner)) true) (ha : argsOk i ⟨self :: rest, kw⟩) (q : Q () s) :
    wpAny M A (checkBuiltinCall i ⟨self :: rest, kw⟩) Q E s := by
  simp only [checkBuiltinCall, hk, hs]
  refine wpAny_bind (hi.here ?_)
  simp only [Bool.not_true, Bool.false_eq_true, if_false]
  cases hsig : Manifest.signature? i with
  | none => exact wpAny_pure q
  | some sig =>
    simp only [argsOk, hsig] at ha
    have h2 : Bind.checkArgs i sig ⟨self :: rest, kw⟩ = pure () := ha
    show wpAny M A (Bind.checkArgs i sig ⟨self :: rest, kw⟩) Q E s
    rw [h2]; exact wpAny_pure q
section
variable {prog : Program} {w : World} {A : Around} {E : Value → Shared → Prop} {s : Shared} {K : Frag} {x dx : Addr} {its : Array Value} {n : Nat} {od : Obj} {id nm : String} {b : Builtin} {rest : List Value} {Q : Value → Shared → Prop}
theorem call_accM (X : K.In s.heap) (C : ClsK K) (I : Acc s.heap x dx its n od) (hk : builtinKind id = some .method) (hs : splitId id = some ("list", nm)) (hp : plainId id = true) (hb : entryFor table id = some b) (ha : argsOk id ⟨.ref x :: rest, []⟩)
    (hc : wpAny (model prog w) A.in1 (b ⟨.ref x :: rest, []⟩) (fun fin s' => ∃ v, fin = .done (.ret v) ∧ Q v s') E s) : wpAny (model prog w) A (call (.builtin id) (.ref x :: rest)) Q E s := by
  refine wpAny_call (codeAny_call_builtin hp hb (check_meth hk hs (I.isList X C) ha (wpAny_mono hc (fun fin s' h' => ?_) fun zz zz h' => h')))
  obtain ⟨v, rfl, hv⟩ := h'; exact hv
theorem call_accS (X : K.In s.heap) (C : ClsK K) (I : Acc s.heap x dx its n od) (hk : builtinKind id = some .slot) (hs : splitId id = some ("list", nm)) (hp : plainId id = true) (hb : entryFor table id = some b) (ha : argsOk id ⟨.ref x :: rest, []⟩)
    (hc : wpAny (model prog w) A.in1 (b ⟨.ref x :: rest, []⟩) (fun fin s' => ∃ v, fin = .done (.ret v) ∧ Q v s') E s) : wpAny (model prog w) A (call (.builtin id) (.ref x :: rest)) Q E s := by
  refine wpAny_call (codeAny_call_builtin hp hb (check_slot hk hs (I.isList X C) ha (wpAny_mono hc (fun fin s' h' => ?_) fun zz zz h' => h')))
  obtain ⟨v, rfl, hv⟩ := h'; exact hv
theorem ps_append : plainId "list.append" = true := by decide +kernel
theorem ps_iter : plainId "list.__iter__" = true := by decide +kernel
theorem ps_getitem : plainId "list.__getitem__" = true := by decide +kernel
theorem ps_setitem : plainId "list.__setitem__" = true := by decide +kernel
theorem acc_append {y : Value} (X : K.In s.heap) (C : ClsK K) (I : Acc s.heap x dx its n od) 
    (h : ∀ h', Heap.SameBut x s.heap h' → h'.get? x = some (accO dx (its.push y) (n + 1)) → Q .none { s with heap := h' }) (hsz : its.size ≤ sizeLine) :
    wpAny (model prog w) A (call (.builtin "list.append") [.ref x, y]) Q E s := by
  refine call_accM X C I (nm := "append") (by decide +kernel) (by decide +kernel) ps_append entry_list_append (args_list_append _ _) ?_
  show wpAny _ _ (updateSeq x (·.push y) >>= fun zz => ret .none) _ _ s
  refine wpAny_bind ?_
  have ho := I.at_
  refine wpAny_updateSeq ho rfl (wpAny_pure ⟨.none, rfl, h _ (Heap.SameBut.update ..) ?_⟩)
  rw [Heap.get?_update_self _ ho rfl]
  simp [Obj.mapSeq]
theorem acc_method {f : Value} {name : Str} {pl : Sem Bool} {Q : Value × List Value → Shared → Prop} (X : K.In s.heap) (C : ClsK K) (I : Acc s.heap x dx its n od)
    (hf : findIn K (.ref 164) name = some (some f)) (ht : typeIn K f = some (.type "function") ∨ typeIn K f = some (.type "method_descriptor")) (hs : lookIn name od = some none) (h : Q (f, [.ref x]) s) :
    wpAny (model prog w) A (getMethod (.ref x) name pl) Q E s := by
  have hcan := PySem.canon_list_getattribute
  have I' := I.inst
  unfold getMethod specialOf
  refine wpAny_bind (wpAny_bind (I'.type.here ((looks_findIn X C.ga).here ?_)))
  dsimp only
  rw [hcan, if_neg (by decide)]
  refine wpAny_bind (wpAny_bind (I'.type.here ((looks_findIn X C.gat).here ?_)))
  obtain ⟨tf, e, hh⟩ : ∃ tf, typeIn K f = some tf ∧ (tf != Value.type "function" && tf != .type "method_descriptor" && tf != .type "wrapper_descriptor") = false := by
    rcases ht with ht | ht
    · exact ⟨_, ht, by decide +kernel⟩
    · exact ⟨_, ht, by decide +kernel⟩
  refine wpAny_bind (wpAny_bind (I'.type.here ((looks_findIn X hf).here (wpAny_bind ((looks_typeIn X e).here ?_)))))
  rw [hh, if_neg (by decide)]
  refine wpAny_bind (wpAny_loadPart I.at_ ?_)
  refine wpAny_bind (wpAny_bind (wpAny_loadPart I.dict ?_))
  rw [nsLook_of hs]
  exact wpAny_pure (wpAny_bind (wpAny_rule (wpAny_pure h)))
end
end Mine
end
-- B11
section
open PySem.Builtin
namespace Mine
section
variable {prog : Program} {w : World} {A : Around} {E : Value → Shared → Prop} {s : Shared} {K : Frag} {x dx : Addr} {its : Array Value} {n : Nat} {od : Obj} {Q : Value → Shared → Prop}
theorem acc_key {i : Value} {name : Str} {Q : Value → Shared → Prop} (X : K.In s.heap) (C : ClsK K) (I : Acc s.heap x dx its n od) (h : Q i s) : wpAny (model prog w) A (sequenceKey (.ref x) i name) Q E s := by
  unfold sequenceKey
  refine wpAny_bind (I.inst.type.here ?_)
  refine wpAny_bind ((anyM_none X C.noSeq).here ?_)
  rw [if_pos (show (!false) = true from rfl)]
  exact wpAny_pure h
theorem acc_special {f : Value} {id : String} {name : Str} {args : List Value} {Q : Option Value → Shared → Prop} (X : K.In s.heap) (I : Acc s.heap x dx its n od) (hf : findIn K (.ref 164) name = some (some (.builtin id)))
    (sl : Slot "list" name id) (h : wpAny (model prog w) A (call (.builtin id) (.ref x :: args)) (fun v => Q (some v)) E s) : wpAny (model prog w) A (callSpecial? (.ref x) name args) Q E s := by
  unfold callSpecial? specialOf
  refine wpAny_bind (wpAny_bind (I.inst.type.here ((looks_findIn X hf).here ?_)))
  refine wpAny_holding ?_
  rw [sl.bind]
  refine wpAny_bind (wpAny_pure ?_)
  exact wpAny_bind (wpAny_mono h (fun zz zz z => wpAny_pure z) fun zz zz z => z)
theorem acc_getslice {sl : Addr} {vl vu : Value} {lo hi : Option Int} (X : K.In s.heap) (C : ClsK K) (I : Acc s.heap x dx its n od)
    (hs : s.heap.IsSliceOf sl vl vu .none) (pl : IsPart vl lo) (pu : IsPart vu hi)
    (h : Q (.ref s.heap.objs.size) { s with heap := s.heap.push { cls := .type "list", data := .seq (slicePick its lo hi none) } })
    (hsz : its.size ≤ sizeLine) : wpAny (model prog w) A (getItem (.ref x) (.ref sl)) Q E s := by
  obtain ⟨os, hos, hcs, hds⟩ := id hs
  have hTs : s.TypeIs (.ref sl) "slice" := ⟨os, hos, hcs⟩
  have ho := I.at_
  unfold getItem
  try with_reducible refine wpAny_holding ?_
  refine wpAny_bind (acc_key X C I ?_)
  refine wpAny_bind (acc_special (f := .none) X I C.getitem slot_list_getitem ?_)
  refine call_accM X C I (nm := "__getitem__") (by decide +kernel) (by decide +kernel) ps_getitem entry_list_getitem (args_list_getitem _ _) ?_
  show wpAny _ _ (Builtin.List.listSubscript? (.ref sl) >>= _) _ _ s
  refine wpAny_bind ?_
  · unfold Builtin.List.listSubscript?
    refine wpAny_bind (wpAny_specialOf hTs slice_no_index ?_)
    simp only [Option.isNone_none, if_true]
    refine wpAny_pure ?_
    show wpAny _ _ (typeOf (.ref sl) >>= _) _ _ s
    refine wpAny_bind (wpAny_typeOf hTs ?_)
    rw [if_neg (by decide)]
    rw [listSliceParts_eq]
    refine wpAny_bind (wpAny_bind (wpAny_field hos hds (x := .none) rfl (wpAny_bind (wpAny_listPart .none ?_))))
    rw [if_neg (by decide)]
    refine wpAny_bind (wpAny_field hos hds (x := vl) rfl (wpAny_bind (wpAny_listPart pl ?_)))
    refine wpAny_bind (wpAny_field hos hds (x := vu) rfl (wpAny_bind (wpAny_listPart pu (wpAny_pure ?_))))
    refine wpAny_bind (m := Builtin.List.listItems (.ref x)) ?_
    · unfold Builtin.List.listItems
      refine wpAny_bind (wpAny_seqItems ho rfl (wpAny_pure ?_))
      refine wpAny_bind (wpAny_of_eq (sliceIndices_raw lo hi none its.size (by simp)) ?_)
      refine wpAny_bind (wpAny_newObj_type (wpAny_pure ⟨_, rfl, wpAny_pure h⟩) (Nat.le_trans (slicePick_size_le its lo hi none) hsz))
noncomputable def spliceAt (its : Array Value) (lo hi : Option Int) (new : Array Value) : Array Value :=
  its.extract 0 (sliceBounds lo hi none its.size).1.toNat ++ new ++ its.extract (max (sliceBounds lo hi none its.size).1 (sliceBounds lo hi none its.size).2.1).toNat its.size
theorem acc_setslice {sl l : Addr} {new : Array Value} {c : Nat} {vl vu : Value} {lo hi : Option Int} {Q : Unit → Shared → Prop} (X : K.In s.heap) (C : ClsK K) (I : Acc s.heap x dx its n od)
    (hs : s.heap.IsSliceOf sl vl vu .none) (pl : IsPart vl lo) (pu : IsPart vu hi) (hl : s.heap.get? l = some (listOf new c))
    (h : ∀ h' n', Heap.SameBut x s.heap h' → h'.get? x = some (accO dx (spliceAt its lo hi new) n') → Q () { s with heap := h' })
    (hsz : its.size + new.size ≤ sizeLine) (hsz2 : (spliceAt its lo hi new).size ≤ sizeLine) : wpAny (model prog w) A (setItem (.ref x) (.ref sl) (.ref l)) Q E s := by
  obtain ⟨os, hos, hcs, hds⟩ := id hs
  have hTs : s.TypeIs (.ref sl) "slice" := ⟨os, hos, hcs⟩
  have hTl : s.TypeIs (.ref l) "list" := ⟨_, hl, rfl⟩
  have ho := I.at_
  unfold setItem
  try with_reducible refine wpAny_holding ?_
  refine wpAny_bind (acc_key X C I ?_)
  refine wpAny_bind (acc_special (f := .none) X I C.setitem F.slot_list_setitem ?_)
  refine call_accS X C I (nm := "__setitem__") (by decide +kernel) (by decide +kernel) ps_setitem F.entry_list_setitem (F.args_list_setitem_3 _ _ _) ?_
  show wpAny _ _ (Builtin.List.listSubscript? (.ref sl) >>= _) _ _ s
  refine wpAny_bind ?_
  · unfold Builtin.List.listSubscript?
    refine wpAny_bind (wpAny_specialOf hTs slice_no_index ?_)
    simp only [Option.isNone_none, if_true]
    refine wpAny_pure ?_
    show wpAny _ _ (typeOf (.ref sl) >>= _) _ _ s
    refine wpAny_bind (wpAny_typeOf hTs ?_)
    rw [if_neg (by decide)]
    rw [listSliceParts_eq]
    refine wpAny_bind (wpAny_bind (wpAny_field hos hds (x := .none) rfl (wpAny_bind (wpAny_listPart .none ?_))))
    rw [if_neg (by decide)]
    refine wpAny_bind (wpAny_field hos hds (x := vl) rfl (wpAny_bind (wpAny_listPart pl ?_)))
    refine wpAny_bind (wpAny_field hos hds (x := vu) rfl (wpAny_bind (wpAny_listPart pu (wpAny_pure ?_))))
    have hxl : x ≠ l := ne_of_get ho hl (by intro e; cases e)
    rw [if_neg (by simp [Builtin.List.listSameRef, hxl])]
    refine wpAny_bind (m := Builtin.List.listAllItems (.ref l) _) ?_
    unfold Builtin.List.listAllItems
    refine wpAny_bind (wpAny_typeOf hTl ?_)
    rw [if_pos (by decide)]
    unfold Builtin.List.listItems
    refine wpAny_bind (wpAny_seqItems hl rfl (wpAny_pure ?_))
    refine wpAny_bind (m := Builtin.List.listItems (.ref x)) ?_
    · unfold Builtin.List.listItems
      refine wpAny_bind (wpAny_seqItems ho rfl (wpAny_pure ?_))
      refine wpAny_bind (wpAny_of_eq (sliceIndices_raw lo hi none its.size (by simp)) ?_)
      rw [if_pos (by rfl)]
      refine wpAny_bind (wpAny_rule ?_)
      rw [if_neg (by simp [Builtin.List.listTooLong]; exact hsz)]
      refine wpAny_bind (m := updateSeq x _) ?_
      refine wpAny_updateSeq ho rfl ?_ (by lia) (Nat.le_succ_of_le hsz2)
      obtain ⟨n', e⟩ : ∃ n', (s.heap.update x (Obj.mapSeq fun xs => xs.extract 0 (sliceBounds lo hi none its.size).1.toNat ++ new ++ xs.extract (max (sliceBounds lo hi none its.size).1 (sliceBounds lo hi none its.size).2.1).toNat xs.size)).get? x = some (accO dx (spliceAt its lo hi new) n') :=
        ⟨_, by rw [Heap.get?_update_self _ ho rfl]; rfl⟩
      exact wpAny_bind (wpAny_letGo (wpAny_pure ⟨.none, rfl, wpAny_pure (h _ n' (Heap.SameBut.update ..) e)⟩))
theorem acc_iter (X : K.In s.heap) (C : ClsK K) (I : Acc s.heap x dx its n od)
    (hQ : Q (.ref s.heap.objs.size) { s with heap := s.heap.push (listIt x 0) }) : wpAny (model prog w) A (pyIter (.ref x)) Q E s := by
  unfold pyIter specialOf
  refine wpAny_bind (wpAny_bind (I.inst.type.here ((looks_findIn X C.iter).here ?_)))
  show wpAny _ _ (callSpecialIfBoundUnlessNone? (.ref x) "__iter__" _ >>= _) _ _ s
  have bind : ∀ {Q' : Option (Value × List Value) → Shared → Prop}, Q' (some (.builtin "list.__iter__", [.ref x])) s → wpAny (model prog w) A (bindSpecialIfBound? (.ref x) "__iter__") Q' E s := by
    intro Q' q
    unfold bindSpecialIfBound? specialOf
    refine wpAny_bind (wpAny_bind (I.inst.type.here ((looks_findIn X C.iter).here ?_)))
    simp only [slot_list_iter.bind]
    refine wpAny_bind (wpAny_askSetting (wpAny_ite ?_))
    split
    · exact wpAny_bind (wpAny_pure (wpAny_pure q))
    · exact wpAny_tryCatch (wpAny_bind (wpAny_pure (wpAny_pure q)))
  refine wpAny_bind ?_
  unfold callSpecialIfBoundUnlessNone?
  refine wpAny_holding (wpAny_bind (bind ?_))
  dsimp only
  rw [if_neg (by decide)]
  refine wpAny_bind (call_accS X C I (nm := "__iter__") (by decide +kernel) (by decide +kernel) ps_iter entry_list_iter (args_list_iter _) ?_)
  show wpAny _ _ (do ret (← newFields "list_iterator" [.ref x, rawInt 0])) _ _ s
  exact wpAny_bind (wpAny_newObj_type (wpAny_pure ⟨_, rfl, wpAny_pure (wpAny_bind (wpAny_specialOf (T := "list_iterator") ⟨_, Heap.get?_push_size _ rfl, rfl⟩ slot_listiter_next.lookup (wpAny_pure hQ)))⟩))
end
end Mine
end
-- B12
section
open PySem.Builtin
namespace Mine
section
variable {prog : Program} {w : World} {A : Around} {E : Value → Shared → Prop} {s : Shared} {K : Frag}
theorem next_item {it l : Addr} {i : Nat} {items : Array Value} {x : Value} {ol : Obj} {nl : Nat} {Q : Option Value → Shared → Prop} (hit : s.heap.IsListIter it l i)
    (hol : s.heap.get? l = some ol) (hdl : ol.data = .seq items nl) (hx : items[i]? = some x)
    (hQ : ∀ h', h'.IsListIter it l (i + 1) → Heap.SameBut it s.heap h' → Q (some x) { s with heap := h' }) :
    wpAny (model prog w) A (pyNext (.ref it)) Q E s := by
  obtain ⟨o, ho, hc, hd⟩ := id hit
  unfold pyNext
  refine wpAny_bind (wpAny_attempt (wpAny_callSpecial?_slot (name := Str.ofString "__next__") hit.typeIs slot_listiter_next
    (wpAny_call_entry slot_listiter_next hit.typeIs entry_listiter_next ?_ (args_listiter_next _))))
  show wpAny _ _ (field (.ref it) 0 >>= _) _ _ s
  refine wpAny_bind (wpAny_field ho hd (x := .ref l) rfl ?_)
  show wpAny _ _ (if (Value.ref l == Value.none) = true then _ else _) _ _ s
  rw [if_neg (show ¬ ((Value.ref l == Value.none) = true) from Bool.false_ne_true)]
  show wpAny _ _ (field (.ref it) 1 >>= _) _ _ s
  refine wpAny_bind (wpAny_field ho hd (x := .int i 0) rfl ?_)
  show wpAny _ _ (seqItems? (.ref l) >>= _) _ _ s
  refine wpAny_bind (wpAny_seqItems hol hdl ?_)
  simp only [Int.toNat_natCast, hx]
  refine wpAny_bind (wpAny_setField ho hd (by simp) (wpAny_pure ⟨x, rfl, wpAny_pure (hQ _ ?_ (Heap.SameBut.update ..))⟩))
  exact ⟨_, Heap.get?_update_self _ ho (Obj.isFreed_of_fields (Obj.data_mapFields hd _)), (Obj.cls_mapFields ..).trans hc, by
    rw [Obj.data_mapFields hd]; simp [rawInt]⟩
theorem next_end {it l : Addr} {i : Nat} {items : Array Value} {ol : Obj} {nl : Nat} {Q : Option Value → Shared → Prop} (hh : A.handled = none)
    (hit : s.heap.IsListIter it l i) (hol : s.heap.get? l = some ol) (hdl : ol.data = .seq items nl) (hx : items[i]? = none)
    (hQ : ∀ h', Heap.ExtBut it s.heap h' → Q none { s with heap := h' }) : wpAny (model prog w) A (pyNext (.ref it)) Q E s := by
  obtain ⟨o, ho, hc, hd⟩ := id hit
  unfold pyNext
  refine wpAny_bind (wpAny_attempt (wpAny_callSpecial?_slot (name := Str.ofString "__next__") hit.typeIs slot_listiter_next
    (wpAny_call_entry slot_listiter_next hit.typeIs entry_listiter_next ?_ (args_listiter_next _))))
  show wpAny _ _ (field (.ref it) 0 >>= _) _ _ s
  refine wpAny_bind (wpAny_field ho hd (x := .ref l) rfl ?_)
  show wpAny _ _ (if (Value.ref l == Value.none) = true then _ else _) _ _ s
  rw [if_neg (show ¬ ((Value.ref l == Value.none) = true) from Bool.false_ne_true)]
  show wpAny _ _ (field (.ref it) 1 >>= _) _ _ s
  refine wpAny_bind (wpAny_field ho hd (x := .int i 0) rfl ?_)
  show wpAny _ _ (seqItems? (.ref l) >>= _) _ _ s
  refine wpAny_bind (wpAny_seqItems hol hdl ?_)
  simp only [Int.toNat_natCast, hx]
  refine wpAny_bind (wpAny_rule (wpAny_bind (wpAny_setField ho hd (by simp) ?_)))
  show wpAny _ _ (newExc (.type "StopIteration") [] >>= _) _ _ _
  refine wpAny_bind ?_
  simp only [newExc, newTuple]
  refine wpAny_bind (wpAny_newObj_type ?_ (by size_fits))
  refine wpAny_bind (m := firstArgMember _ _) (wpAny_of_eq (a := Value.none) (by first | rfl | (simp only [firstArgMember]; rfl)) ?_)
  refine wpAny_newObj_type ?_ (by size_fits)
  simp only [raiseNew]
  refine wpAny_bind (wpAny_handled ?_)
  rw [show A.in1.handled = none from hh]
  refine wpAny_bind (wpAny_pure (wpAny_throw ?_))
  refine wpAny_bind (wpAny_isInstance (T := "StopIteration") (b := true) ⟨_, Heap.get?_push_size _ rfl, rfl⟩ isSubtype_stop ?_)
  exact wpAny_pure (hQ _ (((Heap.SameBut.update ..).extBut.push _).push _))
theorem Iter.acc (x : Addr) (its : Array Value) : Iter prog w (fun h => ∃ o n, h.get? x = some o ∧ o.data = .seq its n) its.size (fun i v => its[i]? = some v) (fun i o => o.cls = .type "list_iterator" ∧ o.data = .fields #[.ref x, .int i 0]) where
  item := fun A E Q i it o h gs d t os hi ⟨ol, nl, hol, hdl⟩ ho hI k => by
    have hx : its[i]? = some its[i] := Array.getElem?_eq_getElem hi
    exact next_item (it := it) (l := x) (i := i) ⟨o, ho, hI⟩ hol hdl hx fun h' ⟨o', ho', hI'⟩ hs' => k _ o' h' _ hx hI' ho' hs'
  done := fun A E Q it o h gs d t os hh ⟨ol, nl, hol, hdl⟩ ho hI k => next_end hh (it := it) (l := x) (i := its.size) ⟨o, ho, hI⟩ hol hdl (Array.getElem?_eq_none (Nat.le_refl _)) k
  self := fun A E Q i it o s ho hI q => wpAny_pyIter_listiter (l := x) (i := i) ⟨o, ho, hI⟩ q
end
noncomputable def IniD (od : Obj) (v : Value) : Prop := ∃ hsh tk n, od = dictOf [⟨hsh, .str "_initial_size" tk, v⟩] n
section
variable {prog : Program} {w : World} {A : Around} {E : Value → Shared → Prop} {K : Frag} {x dx L : Addr} {its : Array Value} {c : Nat} {od : Obj} {g h : Heap} {m : Str → Option Value} {news : List (Addr × Obj)} {gs : Array GenState} {d : Drawn} {t : Nat} {os : OsState}
theorem refuse_list (self : Value) : refuseLoop self "__setattr__" [.type "list", .type "object"] = pure () := by kernel_rfl
set_option maxHeartbeats 4000000 in
theorem acc_sa {v : Value} {tk : Tok} {l l' : List DictEntry} {k k' : Nat} {R : Result → Shared → Prop} (X : K.In h) (C : ClsK K) (ht : findIn K (.ref 164) "_initial_size" = some none) (F : Fr g L h m) (N : News g L h ((dx, dictOf l k) :: news)) (hne : ∀ p ∈ news, p.1 ≠ dx)
    (hx : h.get? x = some (accO dx its c)) (hk : (!l.any (·.key.isStr "_initial_size") && l.any (·.refKey)) = false) (e : Obj.putName "_initial_size" (PyData.keyHash w.params "_initial_size") (.str "_initial_size" t) v (dictOf l k) = dictOf l' k') (hz : l'.length ≤ 1000)
    (q : ∀ h', Fr g L h' m → News g L h' ((dx, dictOf l' k') :: news) → R (.ok (.ret .none)) ⟨h', gs, d, t + 1, os⟩) :
    codeAny (model prog w) A (.call (.builtin "object.__setattr__") ⟨[.ref x, .str "_initial_size" tk, v], []⟩) R ⟨h, gs, d, t, os⟩ := by
  obtain ⟨cd, hc, hmro, hdt⟩ := C.cls
  have SF := PySem.F.store_object
  have I : InstAt h x (accO dx its c) 164 (some (dictOf l k)) := ⟨hx, rfl, rfl, (N _ (.head _)).1⟩
  have hI : Looks (model prog w) h (isInstance (.ref x) (.type "object")) true := I.type.andThen (looks_mroIn X (by unfold mroIn; rw [hc, Option.bind_some, hmro]; kernel_rfl))
  have hm : Looks (model prog w) h (mroOf (.ref 164)) cd.mro := (looks_clsIn X hc).andThen .now
  refine codeAny_call_builtin SF.slot.plain SF.entry (@check_slot (model prog w) _ _ ⟨h, gs, d, t, os⟩ "object.__setattr__" "object" "__setattr__" (.ref x) [.str "_initial_size" tk, v] [] _ SF.kind SF.split hI (SF.args (.ref x) (.str "_initial_size" tk) v) ?_)
  rw [osa_eq, refuse_eq]
  refine wpAny_bind (wpAny_bind (I.type.here (wpAny_bind (hm.here ?_))))
  rw [hmro, refuseLoop_ref, refuse_list]
  refine wpAny_pure (wpAny_bind (I.type.here (wpAny_bind ((looks_findIn X ht).here (wpAny_bind (wpAny_pure ?_))))))
  obtain ⟨U1, U2⟩ := news_upd (pre := []) (f := Obj.putName "_initial_size" (PyData.keyHash w.params "_initial_size") (.str "_initial_size" t) v) F N (fun zz h => nomatch h) hne e rfl
  show wpAny _ _ (ObjectAttr.storeInOwnDict (.ref x) (.ref 164) (.str "_initial_size" tk) "_initial_size" v _) _ _ _
  refine wpAny_bind (wpAny_pure (wpAny_bind (wpAny_bind (wpAny_loadPart hx (wpAny_bind ((looks_clsIn X hc).here ?_))))))
  rw [hdt]
  refine wpAny_pure (a := some dx) (wpAny_bind (wpAny_pure (wpAny_bind ?_)))
  unfold nsSet
  refine wpAny_bind (wpAny_bind (wpAny_askSetting (wpAny_pure (wpAny_bind (wpAny_mkText (wpAny_bind (wpAny_loadPart (N _ (.head _)).1 ?_)))))))
  dsimp only
  rw [aRefKeyMayBeTheName_at, List.any_toArray, List.any_toArray, hk]
  refine wpAny_updatePart (N _ (.head _)).1 ?_
  refine wpAny_bind (wpAny_lookBehind (U2 _ (.head _)).1 (pastItsLine_dict (by rw [List.size_toArray, sizeLine_eq]; lia)) ?_)
  exact wpAny_pure (q _ U1 U2)
theorem acc_set0 {v : Value} {Q : Unit → Shared → Prop} {k : Nat} (X : K.In h) (C : ClsK K) (ht : findIn K (.ref 164) "_initial_size" = some none)
    (F : Fr g L h m) (N : News g L h ((dx, dictOf [] k) :: news)) (hne : ∀ p ∈ news, p.1 ≠ dx) (hx : h.get? x = some (accO dx its c))
    (q : ∀ h' od', IniD od' v → Fr g L h' m → News g L h' ((dx, od') :: news) → Q () ⟨h', gs, d, t + 2, os⟩) :
    wpAny (model prog w) A (setAttr (.ref x) "_initial_size" v) Q E ⟨h, gs, d, t, os⟩ := by
  have I : InstAt h x (accO dx its c) 164 (some (dictOf [] k)) := ⟨hx, rfl, rfl, (N _ (.head _)).1⟩
  refine set_plain X I C.setattr (acc_sa X C ht F N hne hx rfl (putName_dict ..) (by simp [putL]) fun h' F' N' => ?_)
  exact q h' _ ⟨_, _, _, rfl⟩ F' N'
theorem acc_set1 {v v0 : Value} {Q : Unit → Shared → Prop} (X : K.In h) (C : ClsK K) (ht : findIn K (.ref 164) "_initial_size" = some none)
    (F : Fr g L h m) (hi : IniD od v0) (N : News g L h ((dx, od) :: news)) (hne : ∀ p ∈ news, p.1 ≠ dx) (hx : h.get? x = some (accO dx its c))
    (q : ∀ h' od', IniD od' v → Fr g L h' m → News g L h' ((dx, od') :: news) → Q () ⟨h', gs, d, t + 2, os⟩) :
    wpAny (model prog w) A (setAttr (.ref x) "_initial_size" v) Q E ⟨h, gs, d, t, os⟩ := by
  obtain ⟨hsh, tk, k, rfl⟩ := hi
  have I : InstAt h x (accO dx its c) 164 (some (dictOf [⟨hsh, .str "_initial_size" tk, v0⟩] k)) := ⟨hx, rfl, rfl, (N _ (.head _)).1⟩
  refine set_plain X I C.setattr (acc_sa X C ht F N hne hx rfl (putName_dict ..) (by simp [putL, Value.isStr]) fun h' F' N' => ?_)
  exact q h' _ ⟨_, _, _, rfl⟩ F' N'
end
end Mine
end
-- B13
section
open PySem.Builtin
namespace Mine
structure NewK (K : Frag) : Prop where
  made : ∀ M h, K.In h → Looks M h (Bind.madeBy (.ref 164)) (some "list.__new__")
  base : ∀ M h, K.In h → Looks M h (Bind.staticBase (.ref 164)) (.ref 164)
  obj : ∃ oc od cd sl, K.lookup 164 = some ⟨oc, od, .cls cd, sl⟩ ∧ cd.abstract = false ∧ cd.hasDel = false ∧ cd.mro.isEmpty = false
  self : mroIn K 164 (.ref 164) = some true
  typ : instIn K (.ref 164) (.type "type") = some true
  call : specialIn K (.ref 164) "__call__" = some (some (.builtin "type.__call__"))
  init : findIn K (.ref 164) "__init__" = some (some (.ref 101))
  initF : typeIn K (.ref 101) = some (.type "function")
theorem ln_kind : builtinKind "list.__new__" = some .builtinFn := by decide +kernel
theorem ln_split : splitId "list.__new__" = some ("list", "__new__") := by decide +kernel
theorem ln_args (a b : Value) : argsOk "list.__new__" ⟨[a, b], []⟩ := by unfold argsOk; kernel_rfl
section
variable {prog : Program} {w : World} {A : Around} {K : Frag} {R : Result → Shared → Prop} {h : Heap} {g : Array GenState} {d : Drawn} {t : Nat} {os : OsState}
theorem new_acc {v : Value} (X : K.In h) (C : ClsK K) (Y : NewK K)
    (hq : R (.ok (.ret (.ref (h.objs.size + 1)))) ⟨(h.push emptyDict).push (accO h.objs.size #[] 0), g, d, t, os⟩) :
    codeAny (model prog w) A (.call (.builtin "list.__new__") ⟨[.ref 164, v], []⟩) R ⟨h, g, d, t, os⟩ := by
  obtain ⟨oc, od, cd, sl, hC, e1, e2, e4⟩ := Y.obj
  have hC := X _ _ hC
  have made := Y.made (model prog w) h X
  have base := Y.base (model prog w) h X
  have sub := looks_mroIn (M := model prog w) X C.isList
  have ha := ln_args (.ref 164) v
  have isT : Looks (model prog w) h (isType (.ref 164)) true := fun A Q E s k q => ks_wpAny_isType_cls (h := s.heap) (k _ _ hC) rfl q
  refine codeAny_call_builtin_code (plainId_quiet PySem.F.plain_list_new _) ?_
  have fin : wpAny (model prog w) A.in1 (match Manifest.signature? "list.__new__" with | some sig => Bind.checkArgs "list.__new__" sig ⟨[.ref 164, v], []⟩ | none => pure ()) (fun zz s₁ => codeAny (model prog w) A (.builtin "list.__new__" ⟨[.ref 164, v], []⟩) R s₁) (fun e s' => R (.error e) s') ⟨h, g, d, t, os⟩ := by
    have fin2 : codeAny (model prog w) A (.builtin "list.__new__" ⟨[.ref 164, v], []⟩) R ⟨h, g, d, t, os⟩ := by
      refine codeAny_builtin_stack PySem.F.entry_list_new rfl fun p st => ?_
      rw [Around.under_plainId PySem.F.plain_list_new _]
      have hown := owner_list_new
      simp only [hown]
      have hC' := Heap.get?_push_of_some (accO h.objs.size #[] 0) (Heap.get?_push_of_some emptyDict hC)
      refine wpAny_bind (isT.at ?_)
      rw [if_neg (by decide)]
      refine wpAny_bind (sub.at ?_)
      rw [if_neg (by decide)]
      refine wpAny_bind (wpAny_pure ?_)
      rw [if_neg (by decide)]
      refine wpAny_bind (m := newDict) ?_
      unfold newDict
      refine wpAny_newObj_type ?_ (by size_fits)
      dsimp only
      refine wpAny_bind ?_
      show wpAny _ _ (newObjAsIs _ _ _) _ _ _
      unfold newObjAsIs classHasDel
      refine wpAny_bind (wpAny_alloc (wpAny_bind (wpAny_bind (wpAny_load (Heap.get?_push_of_some _ (Heap.get?_push_of_some _ hC)) (wpAny_pure ?_)))))
      rw [e2]
      refine wpAny_pure (wpAny_pure ?_)
      show R _ _
      rw [Heap.size_push]
      exact hq
    cases hsig : Manifest.signature? "list.__new__" with
    | none => exact wpAny_pure fin2
    | some sig =>
      simp only [argsOk, hsig] at ha
      have h2 : Bind.checkArgs "list.__new__" sig ⟨[.ref 164, v], []⟩ = pure () := ha
      show wpAny _ _ (Bind.checkArgs "list.__new__" sig ⟨[.ref 164, v], []⟩) _ _ _
      rw [h2]; exact wpAny_pure fin2
  simp only [checkBuiltinCall, ln_kind, ln_split]
  repeat (first | simp only [bne_self_eq_false, Bool.false_eq_true, if_false, Bool.not_true] | exact fin | lk)
end
end Mine
end
-- B14
section
open PySem.Builtin
namespace Mine
section
variable {prog : Program} {w : World} {A : Around} {K : Frag} {R : Result → Shared → Prop} {h : Heap} {g : Array GenState} {d : Drawn} {t : Nat} {os : OsState}
theorem make_acc {v : Value} (X : K.In h) (C : ClsK K) (Y : NewK K)
    (hq : codeAny (model prog w) (A.under (.builtin "type.__call__" ⟨[.ref 164, v], []⟩)) (.call (.ref 101) ⟨[.ref (h.objs.size + 1), v], []⟩) (InitBack (h.objs.size + 1) R) ⟨(h.push emptyDict).push (accO h.objs.size #[] 0), g, d, t, os⟩) :
    codeAny (model prog w) A (.call (.ref 164) ⟨[v], []⟩) R ⟨h, g, d, t, os⟩ := by
  obtain ⟨oc, od, cd, sl, hC, e1, e2, e4⟩ := Y.obj
  have hC := X _ _ hC
  have made := Y.made (model prog w) h X
  have call := looks_specialIn (M := model prog w) X Y.call
  have typ := looks_instIn (M := model prog w) X Y.typ
  have self := looks_mroIn (M := model prog w) X Y.self
  have hi := looks_findIn (M := model prog w) X Y.init
  have hb := fun self => bind_fn (M := model prog w) X self Y.initF
  refine codeAny_of_tree ?_
  show wpAny _ _ (callAny (.ref 164) _) _ _ _
  refine nd_load hC ?_
  show wpAny _ _ (callAny.viaDunder (.ref 164) _) _ _ _
  unfold callAny.viaDunder
  refine wpAny_bind (call.at ?_)
  dsimp only
  rw [tc_bind]
  refine wpAny_bind (wpAny_pure (wpAny_bind (wpAny_pure ?_)))
  refine wpAny_pure (a := Fin.again (.call (.builtin "type.__call__") ⟨[.ref 164, v], []⟩)) (And.intro rfl ?_)
  refine codeAny_call_builtin_at (Code.quiet_builtin _ (by decide +kernel)) entry_typeCall (check_slot tc_kind tc_split typ (tc_args _ _ _) ?_)
  unfold Builtin.«type.__call__»
  have hm : Looks (model prog w) h (mroOf (.ref 164)) cd.mro := ((Looks.ld (part := none) hC).andThen .now).andThen .now
  repeat (first | simp only [e4, Bool.false_eq_true, if_false] | with_reducible refine wpAny_call ?_ | lk)
  refine new_acc X C Y ?_
  have k : ∀ b o, h.get? b = some o → ((h.push emptyDict).push (accO h.objs.size #[] 0)).get? b = some o := fun b o e => Heap.get?_push_of_some _ (Heap.get?_push_of_some _ e)
  have hx : ((h.push emptyDict).push (accO h.objs.size #[] 0)).get? (h.objs.size + 1) = some (accO h.objs.size #[] 0) := by heap_get
  have t1 : Looks (model prog w) ((h.push emptyDict).push (accO h.objs.size #[] 0)) (typeOf (.ref (h.objs.size + 1))) (.ref 164) := (Looks.ld hx).andThen .now
  have s1 := self.keeps k
  have i1 := hi.keeps k
  have b1 := (hb (.ref (h.objs.size + 1))).keeps k
  unfold isInstance callSpecial? specialOf
  repeat (first | with_reducible refine wpAny_call ?_ | lk)
  refine codeAny_mono hq fun r s' z => ?_
  rcases r with e | (v | _ | _ | _) <;> first | exact z | exact z.elim | skip
  obtain ⟨rfl, z⟩ := z
  exact wpAny_pure (wpAny_pure z)
end
end Mine
end
-- B15
section
open PySem.Builtin
namespace Mine
theorem slot_wget : Slot "wrapper_descriptor" "__get__" "wrapper_descriptor.__get__" := .of (owner := "wrapper_descriptor") (n := "__get__") (by rw [typeLookup_type, builtinLookup_eq_fast]; kernel_rfl) (by decide +kernel) (by decide +kernel) (by decide +kernel)
  (by first | exact .inl (by decide +kernel) | exact .inr (by decide +kernel)) (by rw [isSubtype_type]; kernel_rfl)
theorem slot_mget : Slot "method_descriptor" "__get__" "method_descriptor.__get__" := .of (owner := "method_descriptor") (n := "__get__") (by rw [typeLookup_type, builtinLookup_eq_fast]; kernel_rfl) (by decide +kernel) (by decide +kernel) (by decide +kernel)
  (by first | exact .inl (by decide +kernel) | exact .inr (by decide +kernel)) (by rw [isSubtype_type]; kernel_rfl)
theorem entry_wget : entryFor table "wrapper_descriptor.__get__" = some Builtin.«wrapper_descriptor.__get__» := entryFor_of_tree (by kernel_rfl)
theorem entry_mget : entryFor table "method_descriptor.__get__" = some Builtin.«method_descriptor.__get__» := entryFor_of_tree (by kernel_rfl)
theorem args_wget (a b c : Value) : argsOk "wrapper_descriptor.__get__" ⟨[a, b, c], []⟩ := by unfold argsOk; kernel_rfl
theorem args_mget (a b c : Value) : argsOk "method_descriptor.__get__" ⟨[a, b, c], []⟩ := by unfold argsOk; kernel_rfl
theorem ty_init : typeOf (.builtin "list.__init__") = pure (.type "wrapper_descriptor") := by kernel_rfl
theorem ty_len : typeOf (.builtin "list.__len__") = pure (.type "wrapper_descriptor") := by kernel_rfl
theorem ty_pop : typeOf (.builtin "list.pop") = pure (.type "method_descriptor") := by kernel_rfl
noncomputable abbrev boundO (T id : String) (x : Addr) : Obj := { cls := .type T, dict := none, data := .fields #[.builtin id, .ref x], slots := #[] }
section
variable {prog : Program} {w : World} {M : Model} {A : Around} {E : Value → Shared → Prop} {K : Frag} {h : Heap} {gs : Array GenState} {d : Drawn} {t : Nat} {os : OsState} {x : Addr}
theorem wget_init {Q : Fin → Shared → Prop} (hi : Looks M h (isInstance (.ref x) (.type "list")) true) (q : Q (.done (.ret (.ref h.objs.size))) ⟨h.push (boundO "method-wrapper" "list.__init__" x), gs, d, t, os⟩) :
   wpAny M A (Builtin.«wrapper_descriptor.__get__» ⟨[.builtin "list.__init__", .ref x, .ref 164], []⟩) Q E ⟨h, gs, d, t, os⟩ := by
  unfold Builtin.«wrapper_descriptor.__get__»
  refine wpAny_bind (wpAny_of_eq (a := (.builtin "list.__init__", some (.ref x), some (.ref 164))) (by first | rfl | kernel_rfl) ?_)
  refine wpAny_bind (m := isInstance (.ref x) (.type "list") >>= _) (wpAny_bind (hi.at ?_))
  rw [if_neg (by decide)]
  exact wpAny_pure (wpAny_bind (wpAny_newObj_type (wpAny_pure q)))
theorem wget_len {Q : Fin → Shared → Prop} (hi : Looks M h (isInstance (.ref x) (.type "list")) true) (q : Q (.done (.ret (.ref h.objs.size))) ⟨h.push (boundO "method-wrapper" "list.__len__" x), gs, d, t, os⟩) :
   wpAny M A (Builtin.«wrapper_descriptor.__get__» ⟨[.builtin "list.__len__", .ref x, .ref 164], []⟩) Q E ⟨h, gs, d, t, os⟩ := by
  unfold Builtin.«wrapper_descriptor.__get__»
  refine wpAny_bind (wpAny_of_eq (a := (.builtin "list.__len__", some (.ref x), some (.ref 164))) (by first | rfl | kernel_rfl) ?_)
  refine wpAny_bind (m := isInstance (.ref x) (.type "list") >>= _) (wpAny_bind (hi.at ?_))
  rw [if_neg (by decide)]
  exact wpAny_pure (wpAny_bind (wpAny_newObj_type (wpAny_pure q)))
theorem mget_pop {Q : Fin → Shared → Prop} (hi : Looks M h (isInstance (.ref x) (.type "list")) true) (q : Q (.done (.ret (.ref h.objs.size))) ⟨h.push (boundO "builtin_function_or_method" "list.pop" x), gs, d, t, os⟩) :
   wpAny M A (Builtin.«method_descriptor.__get__» ⟨[.builtin "list.pop", .ref x, .ref 164], []⟩) Q E ⟨h, gs, d, t, os⟩ := by
  unfold Builtin.«method_descriptor.__get__»
  refine wpAny_bind (wpAny_of_eq (a := (.builtin "list.pop", some (.ref x), some (.ref 164))) (by first | rfl | kernel_rfl) ?_)
  dsimp only
  rw [if_neg (by decide +kernel)]
  refine wpAny_bind (m := isInstance (.ref x) (.type "list") >>= _) (wpAny_bind (hi.at ?_))
  rw [if_neg (by decide)]
  exact wpAny_pure (wpAny_bind (wpAny_newObj_type (wpAny_pure q)))
end
section
variable {prog : Program} {w : World} {A : Around} {E : Value → Shared → Prop} {K : Frag} {h : Heap} {g : Array GenState} {d : Drawn} {t : Nat} {os : OsState} {so x : Addr} {name : Str} {id gid T : String} {l₀ l : List Value} {o : Obj}
theorem super_ga {tk : Tok} {Q : Fin → Shared → Prop} (hso : h.get? so = some (ks_superObj 164 x 164)) (hno : Looks (model prog w) h (opaqueClassAbove (.ref 164)) none)
    (hC : Looks (model prog w) h (mroOf (.ref 164)) l₀) (hl : (l₀.dropWhile (· != .ref 164)).drop 1 = l) (X : K.In h)
    (hf : alongIn K name l = some (some (.builtin id))) (hty : typeOf (.builtin id) = pure (.type T)) (hlk : typeLookup (.type T) "__get__" = pure (some (.builtin gid))) (hxC : x ≠ 164) (hn : (name == ("__class__" : Str)) = false)
    (hg : ∀ {Q' : Value → Shared → Prop} {E' : Value → Shared → Prop} {A' : Around}, Q' (.ref h.objs.size) ⟨h.push o, g, d, t, os⟩ → wpAny (model prog w) A' (call (.builtin gid) [.builtin id, .ref x, .ref 164]) Q' E' ⟨h, g, d, t, os⟩)
    (hq : Q (.done (.ret (.ref h.objs.size))) ⟨h.push o, g, d, t, os⟩) :
    wpAny (model prog w) A (Builtin.«super.__getattribute__» ⟨[.ref so, .str name tk], []⟩) Q E ⟨h, g, d, t, os⟩ := by
  have hne : (Value.ref x == Value.ref 164) = false := by simp [hxC]
  have hdt : (ks_superObj 164 x 164).data = .fields #[.ref 164, .ref x, .ref 164] := rfl
  have f0 : (#[.ref 164, .ref x, .ref 164] : Array Value)[0]? = some (.ref 164) := rfl
  have f1 : (#[.ref 164, .ref x, .ref 164] : Array Value)[1]? = some (.ref x) := rfl
  have f2 : (#[.ref 164, .ref x, .ref 164] : Array Value)[2]? = some (.ref 164) := rfl
  unfold Builtin.«super.__getattribute__»
  repeat (first
    | (with_reducible refine wpAny_field hso hdt f0 ?_) | (with_reducible refine wpAny_field hso hdt f1 ?_) | (with_reducible refine wpAny_field hso hdt f2 ?_)
    | (with_reducible refine ks_wpAny_notOpaque hno ?_)
    | (with_reducible refine Looks.at hC ?_; rw [hl])
    | (refine ks_forIn_along X (fun zz zz => rfl) rfl ?_ hf)
    | (rw [hty])
    | (with_reducible refine hg ?_)
    | (simp only [hn, hne, Bool.or_false, Bool.false_eq_true, if_false])
    | wp_step
    | dsimp only)
  all_goals exact hq
theorem super_method {pl : Sem Bool} {Q : Value × List Value → Shared → Prop} (hso : h.get? so = some (ks_superObj 164 x 164)) (hno : Looks (model prog w) h (opaqueClassAbove (.ref 164)) none)
    (hC : Looks (model prog w) h (mroOf (.ref 164)) l₀) (hl : (l₀.dropWhile (· != .ref 164)).drop 1 = l) (X : K.In h)
    (hf : alongIn K name l = some (some (.builtin id))) (hty : typeOf (.builtin id) = pure (.type T)) (hlk : typeLookup (.type T) "__get__" = pure (some (.builtin gid))) (hxC : x ≠ 164) (hn : (name == ("__class__" : Str)) = false)
    (hg : ∀ {Q' : Value → Shared → Prop} {E' : Value → Shared → Prop} {A' : Around}, Q' (.ref h.objs.size) ⟨h.push o, g, d, t + 1, os⟩ → wpAny (model prog w) A' (call (.builtin gid) [.builtin id, .ref x, .ref 164]) Q' E' ⟨h, g, d, t + 1, os⟩)
    (hq : Q (.ref h.objs.size, []) ⟨h.push o, g, d, t + 1, os⟩) :
    wpAny (model prog w) A (getMethod (.ref so) name pl) Q E ⟨h, g, d, t, os⟩ := by
  have hlk' := PySem.F.ks_slot_super_ga.lookup
  have hcan := PySem.F.ks_canon_super_ga
  have hT : ∀ t', (⟨h, g, d, t', os⟩ : Shared).TypeIs (.ref so) "super" := fun zz => ⟨_, hso, rfl⟩
  unfold getMethod
  refine wpAny_bind (wpAny_specialOf (hT _) hlk' ?_)
  show wpAny _ _ (if (Manifest.canonical "super.__getattribute__" != "object.__getattribute__") = true then _ else _) _ _ _
  rw [if_pos hcan]
  unfold getAttr getAttrBy
  refine wpAny_bind (wpAny_bind (wpAny_mkText (wpAny_holding (wpAny_bind (wpAny_typeOf (hT _) (wpAny_bind (wpAny_of_eq hlk' ?_)))))))
  show wpAny _ _ (getAttrByItsOwn (.ref so) (.str name t) (.type "super") (.builtin "super.__getattribute__") true false) _ _ _
  unfold getAttrByItsOwn hookBefore callGetattribute boundAndCalled
  refine wpAny_bind (wpAny_of_eq (show (if onTheHeap (.type "super") then typeLookup (.type "super") "__getattr__" else pure none) = pure none from rfl) ?_)
  refine wpAny_bind (wpAny_attempt (wpAny_holding ?_))
  show wpAny _ _ (bindSpecial (.builtin "super.__getattribute__") (.ref so) >>= _) _ _ _
  refine wpAny_bind (wpAny_of_eq (PySem.F.ks_slot_super_ga.bind _) ?_)
  refine wpAny_mono (Q := fun v s' => v = .ref h.objs.size ∧ s' = ⟨h.push o, g, d, t + 1, os⟩) (E := fun zz zz => False)
    (wpAny_call_entry PySem.F.ks_slot_super_ga (hT _) PySem.F.ks_entry_super_ga (super_ga hso hno hC hl X hf hty hlk hxC hn hg ⟨_, rfl, rfl, rfl⟩) (PySem.F.ks_gaArgs_super _ _)) (fun v s' hv => ?_) fun zz zz z => z.elim
  obtain ⟨rfl, rfl⟩ := hv
  exact wpAny_pure (wpAny_pure hq)
end
end Mine
end
-- B16
section
open PySem.Builtin
namespace Mine
theorem sp_init : splitId "list.__init__" = some ("list", "__init__") := by decide +kernel
theorem kd_init : builtinKind "list.__init__" = some .slot := by simp only [builtinKind, sp_init]; decide +kernel
theorem sp_len : splitId "list.__len__" = some ("list", "__len__") := by decide +kernel
theorem kd_len : builtinKind "list.__len__" = some .slot := by simp only [builtinKind, sp_len]; decide +kernel
theorem sp_pop : splitId "list.pop" = some ("list", "pop") := by decide +kernel
theorem kd_pop : builtinKind "list.pop" = some .method := by simp only [builtinKind, sp_pop]; decide +kernel
noncomputable def popArgs (f : String) (v : Value) : Sem Unit := (Manifest.signature? "list.pop").elim (pure ()) fun sig => Bind.checkArgs "list.pop" { sig with full := f } ⟨[v], []⟩
theorem popArgs_ok (x : Addr) : popArgs (toString (Str.toString "_Accumulator") ++ toString "." ++ toString (Bind.lastOf "list.pop")) (.ref x) = pure () := by
  unfold popArgs
  rw [signature?_of (id := "list.pop") (n := ['p', 'o', 'p']) (o := ['t', 's', 'i', 'l']) (by kernel_rfl) PySem.F.owner_list]
  kernel_rfl
section
variable {prog : Program} {w : World} {A : Around} {E : Value → Shared → Prop} {K : Frag} {h : Heap} {gs : Array GenState} {d : Drawn} {t : Nat} {os : OsState} {so x q dx : Addr} {its : Array Value} {n : Nat} {od : Obj}
structure SupK (K : Frag) : Prop where
  opq : ∀ M h, K.In h → Looks M h (opaqueClassAbove (.ref 164)) none
  along_init : alongIn K "__init__" [.type "list", .type "object"] = some (some (.builtin "list.__init__"))
  along_len : alongIn K "__len__" [.type "list", .type "object"] = some (some (.builtin "list.__len__"))
  along_pop : alongIn K "pop" [.type "list", .type "object"] = some (some (.builtin "list.pop"))
  typ : typeIn K (.ref 164) = some (.type "type")
  notMod : mroIn K 164 (.type "module") = some false
  qual : ∃ cd, clsIn K 164 = some cd ∧ cd.qualname = "_Accumulator"
theorem mro_acc {M : Model} (X : K.In h) (C : ClsK K) : Looks M h (mroOf (.ref 164)) [.ref 164, .type "list", .type "object"] := by
  obtain ⟨cd, hc, hm, -⟩ := C.cls
  exact fun A Q E s k q => wpAny_bind ((looks_clsIn X hc) A _ E s k (wpAny_pure (hm ▸ q)))
theorem acc_ne (X : K.In h) (C : ClsK K) (I : Acc h x dx its n od) : x ≠ 164 := by
  obtain ⟨cd, hc, -⟩ := C.cls
  exact ks_ne X I.inst hc
theorem sm_init {pl : Sem Bool} {Q : Value × List Value → Shared → Prop} (X : K.In h) (C : ClsK K) (S : SupK K) (I : Acc h x dx its n od) (hso : h.get? so = some (ks_superObj 164 x 164))
    (hq : Q (.ref h.objs.size, []) ⟨h.push (boundO "method-wrapper" "list.__init__" x), gs, d, t + 1, os⟩) : wpAny (model prog w) A (getMethod (.ref so) "__init__" pl) Q E ⟨h, gs, d, t, os⟩ :=
  super_method hso (S.opq _ _ X) (mro_acc X C) rfl X S.along_init ty_init slot_wget.lookup (acc_ne X C I) rfl (fun q => wpAny_call_entry (T := "wrapper_descriptor") slot_wget ty_init entry_wget (wget_init (I.isList X C) ⟨_, rfl, q⟩) (args_wget _ _ _)) hq
theorem sm_len {pl : Sem Bool} {Q : Value × List Value → Shared → Prop} (X : K.In h) (C : ClsK K) (S : SupK K) (I : Acc h x dx its n od) (hso : h.get? so = some (ks_superObj 164 x 164))
    (hq : Q (.ref h.objs.size, []) ⟨h.push (boundO "method-wrapper" "list.__len__" x), gs, d, t + 1, os⟩) : wpAny (model prog w) A (getMethod (.ref so) "__len__" pl) Q E ⟨h, gs, d, t, os⟩ :=
  super_method hso (S.opq _ _ X) (mro_acc X C) rfl X S.along_len ty_len slot_wget.lookup (acc_ne X C I) rfl (fun q => wpAny_call_entry (T := "wrapper_descriptor") slot_wget ty_len entry_wget (wget_len (I.isList X C) ⟨_, rfl, q⟩) (args_wget _ _ _)) hq
theorem sm_pop {pl : Sem Bool} {Q : Value × List Value → Shared → Prop} (X : K.In h) (C : ClsK K) (S : SupK K) (I : Acc h x dx its n od) (hso : h.get? so = some (ks_superObj 164 x 164))
    (hq : Q (.ref h.objs.size, []) ⟨h.push (boundO "builtin_function_or_method" "list.pop" x), gs, d, t + 1, os⟩) : wpAny (model prog w) A (getMethod (.ref so) "pop" pl) Q E ⟨h, gs, d, t, os⟩ :=
  super_method hso (S.opq _ _ X) (mro_acc X C) rfl X S.along_pop ty_pop slot_mget.lookup (acc_ne X C I) rfl (fun q => wpAny_call_entry (T := "method_descriptor") slot_mget ty_pop entry_mget (mget_pop (I.isList X C) ⟨_, rfl, q⟩) (args_mget _ _ _)) hq
theorem Kp.bound {M : Model} {id : String} {T : String} (e : h.get? q = some (boundO T id x)) (hT : T = "method-wrapper" ∨ T = "builtin_function_or_method") : Kp M h (.ref q) := by
  refine ⟨.machine, .inr (.inl rfl), fun A Q E s k q' => ?_⟩
  unfold keeperOf
  refine wpAny_bind (wpAny_load (k _ _ e) ?_)
  rcases hT with rfl | rfl <;> exact wpAny_pure q'
theorem call_bound {id : String} {T : String} {args : List Value} {b : Builtin} {Q : Value → Shared → Prop} (e : h.get? q = some (boundO T id x)) (hT : T = "method-wrapper" ∨ T = "builtin_function_or_method")
    (hp : plainId id = true) (hb : entryFor table id = some b)
    (hck : ∀ {Q' : Unit → Shared → Prop} {E' : Value → Shared → Prop} {A' : Around}, Q' () ⟨h, gs, d, t, os⟩ → wpAny (model prog w) A' (checkBoundCall id ⟨.ref x :: args, []⟩) Q' E' ⟨h, gs, d, t, os⟩)
    (hc : wpAny (model prog w) A.in1 (b ⟨.ref x :: args, []⟩) (fun fin s' => ∃ v, fin = .done (.ret v) ∧ Q v s') E ⟨h, gs, d, t, os⟩) :
    wpAny (model prog w) A (call (.ref q) args) Q E ⟨h, gs, d, t, os⟩ := by
  refine wpAny_call (codeAny_of_tree ?_)
  show wpAny _ A.in1 (callAny (.ref q) ⟨args, []⟩) _ _ _
  unfold callAny
  refine wpAny_bind (wpAny_load e ?_)
  have fin : codeAny (model prog w) A (.builtin id ⟨.ref x :: args, []⟩) (fun r s' => match r with | .ok (.ret v) => Q v s' | .ok _ => False | .error e => E e s') ⟨h, gs, d, t, os⟩ := by
    refine codeAny_builtin hb ?_
    rw [Around.under_plainId hp _]
    refine wpAny_mono hc (fun fin s' h' => ?_) fun zz zz z => z
    obtain ⟨v, rfl, hv⟩ := h'
    exact hv
  rcases hT with rfl | rfl
  · show wpAny _ _ (checkBoundCall id ⟨.ref x :: args, []⟩ >>= fun zz => again (.builtin id ⟨.ref x :: args, []⟩)) _ _ _
    exact wpAny_bind (hck (wpAny_pure ⟨plainId_quiet hp _, fin⟩))
  · show wpAny _ _ (checkBoundCall id ⟨.ref x :: args, []⟩ >>= fun zz => again (.builtin id ⟨.ref x :: args, []⟩)) _ _ _
    exact wpAny_bind (hck (wpAny_pure ⟨plainId_quiet hp _, fin⟩))
theorem ck_slot {M : Model} {s : Shared} {id : String} {args : List Value} {Q : Unit → Shared → Prop} (hk : builtinKind id = some .slot) (ha : argsOk id ⟨.ref x :: args, []⟩) (h : Q () s) : wpAny M A (checkBoundCall id ⟨.ref x :: args, []⟩) Q E s := by
  unfold checkBoundCall
  cases hsig : Manifest.signature? id with
  | none => exact wpAny_pure h
  | some sig =>
    simp only [argsOk, hsig] at ha
    have h2 : Bind.checkArgs id sig ⟨.ref x :: args, []⟩ = pure () := ha
    simp only [hk]
    rw [if_pos (by decide), h2]
    exact wpAny_pure h
theorem pl_init : plainId "list.__init__" = true := by decide +kernel
theorem pl_len : plainId "list.__len__" = true := by decide +kernel
theorem pl_pop : plainId "list.pop" = true := by decide +kernel
theorem ck_init {s : Shared} {Q : Unit → Shared → Prop} (h : Q () s) : wpAny (model prog w) A (checkBoundCall "list.__init__" ⟨[.ref x], []⟩) Q E s := by
  have ha := PySem.F.args_list_init_1 (.ref x)
  exact ck_slot (M := model prog w) (A := A) (E := E) (s := s) (Q := Q) (id := "list.__init__") (x := x) (args := []) kd_init ha h
theorem ck_len {s : Shared} {Q : Unit → Shared → Prop} (h : Q () s) : wpAny (model prog w) A (checkBoundCall "list.__len__" ⟨[.ref x], []⟩) Q E s := ck_slot (M := model prog w) (A := A) (E := E) (s := s) (Q := Q) (id := "list.__len__") (x := x) (args := []) kd_len (PySem.F.args_list_len_1 (.ref x)) h
theorem b_list_init {Q : Value → Shared → Prop} (e : h.get? q = some (boundO "method-wrapper" "list.__init__" x)) (I : Acc h x dx its n od) (hz : its.size ≤ sizeLine)
    (k : ∀ h' n', Heap.SameBut x h h' → h'.get? x = some (accO dx #[] n') → Q .none ⟨h', gs, d, t, os⟩) : wpAny (model prog w) A (call (.ref q) []) Q E ⟨h, gs, d, t, os⟩ := by
  refine call_bound e (.inl rfl) pl_init PySem.F.entry_list_init (fun q => ck_init q) ?_
  unfold Builtin.«list.__init__»
  dsimp only
  rw [if_neg (by decide)]
  rw [if_neg (by decide)]
  unfold Builtin.List.listItems
  refine wpAny_bind (wpAny_bind (wpAny_seqItems I.at_ rfl (wpAny_pure ?_)))
  refine wpAny_bind (m := updateSeq x _) ?_
  refine wpAny_updateSeq I.at_ rfl ?_ hz (by simp)
  obtain ⟨n', e'⟩ : ∃ n', (h.update x (Obj.mapSeq fun zz => #[])).get? x = some (accO dx #[] n') := ⟨_, by rw [Heap.get?_update_self _ I.at_ rfl]; rfl⟩
  exact wpAny_bind (wpAny_letGo (wpAny_pure ⟨.none, rfl, k _ n' (Heap.SameBut.update ..) e'⟩))
theorem b_list_len {Q : Value → Shared → Prop} (e : h.get? q = some (boundO "method-wrapper" "list.__len__" x)) (I : Acc h x dx its n od)
    (k : Q (.int its.size t) ⟨h, gs, d, t + 1, os⟩) : wpAny (model prog w) A (call (.ref q) []) Q E ⟨h, gs, d, t, os⟩ := by
  refine call_bound e (.inl rfl) pl_len PySem.F.entry_list_len (fun q => ck_len q) ?_
  show wpAny _ _ (seqSize x >>= fun n => retInt n) _ _ _
  refine wpAny_bind ?_
  unfold seqSize
  refine wpAny_bind (wpAny_loadPart I.at_ (wpAny_pure ?_))
  exact wpAny_bind (wpAny_mkInt (wpAny_pure ⟨_, rfl, k⟩))
theorem ck_pop {s : Shared} {Q : Unit → Shared → Prop} (X : K.In s.heap) (C : ClsK K) (S : SupK K) (I : Acc s.heap x dx its n od) (h : Q () s) : wpAny (model prog w) A (checkBoundCall "list.pop" ⟨[.ref x], []⟩) Q E s := by
  obtain ⟨cd, hc, hq⟩ := S.qual
  have notMod : Looks (model prog w) s.heap (isInstance (.ref x) (.type "module")) false := I.inst.type.andThen (looks_mroIn X S.notMod)
  unfold checkBoundCall
  have ha := popArgs_ok x
  unfold popArgs at ha
  cases hsig : Manifest.signature? "list.pop" with
  | none => exact wpAny_pure h
  | some sig =>
    simp only [hsig, Option.elim] at ha
    simp only [kd_pop]
    rw [if_neg (by decide)]
    refine wpAny_bind (notMod.here ?_)
    rw [if_neg (by decide +kernel)]
    have isT : ∀ {Q' : Bool → Shared → Prop} {E' : Value → Shared → Prop}, Q' false s → wpAny (model prog w) A (isType (.ref x)) Q' E' s := fun q => ks_wpAny_isType_inst (h := s.heap) (g := s.gens) (d := s.drawn) (t := s.toks) (os := s.os) I.at_ (by intro c e; cases e) q
    refine wpAny_bind (isT ?_)
    rw [if_neg (by decide)]
    refine wpAny_bind (I.inst.type.here ?_)
    dsimp only
    refine wpAny_bind ((looks_clsIn X hc).here ?_)
    refine wpAny_bind ((looks_typeIn X S.typ).here ?_)
    rw [if_pos (by decide), hq, ha]
    exact wpAny_pure h
end
end Mine
end
-- B17
section
open PySem.Builtin
namespace Mine
section
variable {prog : Program} {w : World} {A : Around} {E : Value → Shared → Prop} {K : Frag} {h : Heap} {gs : Array GenState} {d : Drawn} {t : Nat} {os : OsState} {so x q dx : Addr} {its : Array Value} {n : Nat} {od : Obj}
theorem b_list_pop {p : List Value} {y : Value} {Q : Value → Shared → Prop} (X : K.In h) (C : ClsK K) (S : SupK K) (e : h.get? q = some (boundO "builtin_function_or_method" "list.pop" x)) (I : Acc h x dx (p ++ [y]).toArray n od) (hz : (p ++ [y]).length ≤ sizeLine)
    (k : ∀ h' n', Heap.SameBut x h h' → h'.get? x = some (accO dx p.toArray n') → Q y ⟨h', gs, d, t, os⟩) : wpAny (model prog w) A (call (.ref q) []) Q E ⟨h, gs, d, t, os⟩ := by
  refine call_bound e (.inr rfl) pl_pop PySem.F.entry_list_pop (fun q => ck_pop X C S I q) ?_
  have hl := I.at_
  have hsz : (p ++ [y]).toArray.size = p.length + 1 := by simp
  have hy : (p ++ [y]).toArray[(p ++ [y]).toArray.size - 1]? = some y := by rw [hsz]; simp
  have hs1 : (p ++ [y]).toArray.size ≤ sizeLine := by rw [List.size_toArray]; exact hz
  have hne : ¬ (p ++ [y]).toArray.isEmpty = true := by simp
  have hk : seqIndex? (-1) (p ++ [y]).toArray.size = some ((p ++ [y]).toArray.size - 1) := by
    have h1 : 1 ≤ (p ++ [y]).toArray.size := by rw [hsz]; exact Nat.succ_le_succ (Nat.zero_le _)
    rw [seqIndex_neg (by decide) (zng h1)]; exact congrArg some (zt1 h1)
  unfold Builtin.«list.pop»
  wp_walk using wpAny_loadPart' hl
  simp only [hk, hy, Option.bind_some, Option.map_some]
  have er : (p ++ [y]).toArray.eraseIdxIfInBounds ((p ++ [y]).toArray.size - 1) = p.toArray := by
    rw [hsz]; exact (kl_erase p [] y).trans (by simp)
  have hz' : ((p ++ [y]).toArray.eraseIdxIfInBounds ((p ++ [y]).toArray.size - 1)).size ≤ sizeLine + 1 := by
    rw [er, List.size_toArray]; rw [hsz] at hs1; exact Nat.le_succ_of_le (Nat.le_of_succ_le hs1)
  wp_walk using (wpAny_updateSeq hl rfl (hz := hs1) (_hz' := hz')), wpAny_loadPart' hl
  obtain ⟨n', e'⟩ : ∃ n', (h.update x (Obj.mapSeq fun xs => xs.eraseIdxIfInBounds ((p ++ [y]).toArray.size - 1))).get? x = some (accO dx p.toArray n') := ⟨_, by
    rw [Heap.get?_update_self _ hl rfl]
    show some (accO dx ((p ++ [y]).toArray.eraseIdxIfInBounds ((p ++ [y]).toArray.size - 1)) _) = _
    rw [er]⟩
  exact ⟨_, rfl, k _ n' (Heap.SameBut.update ..) e'⟩
end
section
variable {prog : Program} {w : World} {A : Around} {E : Value → Shared → Prop} {K : Frag} {g : Heap} {mg mb : Str → Option Value} {Q : Value → Shared → Prop}
  {f c : Addr} {name qual : Str} {ar : Arguments} {b : List Stmt} {sc : Scope} {dV kV ct : Value} {args : List Value} {kw : List (Str × Value)} {binds : List (Str × Value)} {W : List (Addr × Obj)}
  {h : Heap} {gs : Array GenState} {d : Drawn} {t : Nat} {os : OsState}
theorem call_fnS (am : A.depth < recursionLimit) (hF : FnK K f name qual ar b sc [("__class__", 88)] dV kV c ct) (G : Gd K mg mb g) (sub : Sub g h) (sz : g.objs.size ≤ h.objs.size)
    (hW : ∀ p ∈ W, h.get? p.1 = some p.2 ∧ g.get? p.1 = none)
    (hbind : ∀ pm, BindsTo ⟨h, gs, d, t, os⟩ (fnX name qual ar b sc [("__class__", 88)] dV kV .none pm none (.ref c) ct) ⟨args, kw⟩ binds)
    (q : ∀ L h₁ t₁, Fr g L h₁ (fun y => binds.reverse.lookup y) → News g L h₁ W → (∀ p ∈ W, p.1 < L) → Sub h h₁ → h.objs.size ≤ L →
      PySem.wpAt (model prog w) (A.deeper (envX qual sc L f (.ref c) [("__class__", 88)])) (.func b (envX qual sc L f (.ref c) [("__class__", 88)])) (execs b (envX qual sc L f (.ref c) [("__class__", 88)]))
        (fun fl s' => Q (match fl with | .ret v => v | _ => .none) s') (fun zz zz => False) ⟨h₁, gs, d, t₁, os⟩)
    (hloc : (binds.all fun x => decide (sc.names.lookup x.1 = some .local)) = true := by with_unfolding_all rfl)
    (hcell : (sc.names.all fun x => !decide (x.2 = .cell)) = true := by with_unfolding_all rfl)
    (hco : sc.isCoroutine = false := by with_unfolding_all rfl) (hgen : sc.isGenerator = false := by with_unfolding_all rfl) (hk : sc.kind = .function := by with_unfolding_all rfl) :
    wpAny (model prog w) A (call (.ref f) args kw) Q E ⟨h, gs, d, t, os⟩ := by
  obtain ⟨⟨pm, ho⟩, hcd⟩ := hF
  have X := G.X.keeps sub
  refine wpAny_call (ks_codeAny_call_defAt (fd := fnX name qual ar b sc [("__class__", 88)] dV kV .none pm none (.ref c) ct) (body := b) (binds := binds) am (X _ _ ho) rfl (G.nl.keeps sub) (codeRec_of X hcd) rfl (hbind pm)
    (fun x hx e => by have := List.all_eq_true.mp hcell x hx; rw [e] at this; exact absurd this (by decide)) (locs hloc) (fun h₁ hns hk₁ => ?_) hco hgen hk)
  refine ks_wpAt_mono (q h.objs.size h₁ _ ⟨hns, fun b o e => hk₁ b o (sub b o e), sz⟩ (fun p hp => ⟨hk₁ _ _ (hW p hp).1, Nat.ne_of_lt (Heap.lt_size (hW p hp).1), (hW p hp).2⟩) (fun p hp => Heap.lt_size (hW p hp).1) hk₁ (Nat.le_refl _)) (fun fl s' hl => hl) fun e s' x => x.elim
theorem super_node {L x : Addr} {body : List Stmt} {p0 p1 : Pos} {attr : Str} {whole : Sem Value} {ar' : Arg} {vs : Array Value} {file : Str} {tf : Tok} {m : Str → Option Value} {its : Array Value} {n : Nat} {dx : Addr} {od : Obj} {s : Shared} {ccl ocl : Value} {cdd ocd : Option Addr} {ccs ocs : Array (Option Value)}
    {b' : List Stmt} (hF : FnK K f name qual ar b' sc [("__class__", 88)] dV kV c ct) (G : Gd K mg mb g) (C : ClsK K) (F : Fr g L s.heap m) (hp : (ar.posonlyargs ++ ar.args).head? = some ar') (hv : m ar'.arg = some (.ref x)) (I : Acc s.heap x dx its n od)
    (hcode : K.lookup c = some ⟨ccl, cdd, .fields vs, ccs⟩) (hvs : vs[2]? = some (.str file tf)) (hfile : ((prog.main.file : Str) == file) = true)
    (hcell : K.lookup 88 = some ⟨ocl, ocd, .cell (some (.ref 164)), ocs⟩) (self : mroIn K 164 (.ref 164) = some true) (hsuper : nsIn K mainGlobals "super" = some none)
    (htop : (prog.main.scope.names.lookup ("super" : Str)).isSome = false)
    (h : ∀ so h', Heap.objs h' = Heap.objs h' → h'.get? so = some (ks_superObj 164 x 164) → Sub s.heap h' → so = s.heap.objs.size → Q (.ref so) { s with heap := h' })
    (hat : (attr == ("__class__" : Str)) = false := by with_unfolding_all rfl) (hks : sc.names.lookup ("super" : Str) = some .globalImplicit := by with_unfolding_all rfl) (hkc : sc.names.lookup ("__class__" : Str) = some .free := by with_unfolding_all rfl) (hka : sc.names.lookup ar'.arg = some .local := by with_unfolding_all rfl) (hk : sc.kind = .function := by with_unfolding_all rfl) :
    PySem.wpAt (model prog w) A (.func body (envX qual sc L f (.ref c) [("__class__", 88)])) (attributeBase (.Call (.Name "super" p0) [] [] p1) attr (envX qual sc L f (.ref c) [("__class__", 88)]) whole) Q E s := by
  have X : K.In s.heap := G.X.keeps F.keep
  obtain ⟨hh, gs, d, t, os⟩ := s
  obtain ⟨⟨pm, hf⟩, -⟩ := hF
  obtain ⟨cd, hc, -⟩ := C.cls
  obtain ⟨oD, hD1, hD2⟩ : ∃ oD, hh.get? 164 = some oD ∧ oD.data = .cls cd := by
    unfold clsIn at hc
    set_option tactic.hygienic true in split at hc
    · rename_i c d cd' sl ho
      cases hc
      exact ⟨_, X _ _ ho, rfl⟩
    · cases hc
  refine ks_wpAt_super_base (env := envX qual sc L f (.ref c) [("__class__", 88)]) hks hkc hat rfl (X _ _ hf) rfl hp rfl (X _ _ hcode) rfl hvs hfile htop ?_
  refine ks_loadName_global hk hks (loadGlobal_builtin (env := envX qual sc L f (.ref c) [("__class__", 88)]) (G.gl.keeps F.keep) (mg_none_of G.X G.gl hsuper) (G.bl.keeps F.keep) ((G.bi _ (by decide +kernel)).trans bb_super) ⟨rfl, ?_⟩)
  refine wpAny_loadName_free hk hkc rfl ⟨_, X _ _ hcell, rfl⟩ ?_
  refine wpAny_loadName_local hk hka F.ns hv ?_
  refine ks_wpAny_isType_cls hD1 hD2 ⟨rfl, ?_⟩
  exact ks_wpAny_call_super hD1 hD2 I.at_ rfl (fun c e => by cases e) (looks_mroIn X self) (fun h' e k => h _ h' rfl e k rfl)
end
end Mine
end
-- F3
section
namespace Mine
structure SnK (K : Frag) (c : Addr) : Prop where
  code : ∃ ccl cdd vs ccs tf, K.lookup c = some ⟨ccl, cdd, .fields vs, ccs⟩ ∧ vs[2]? = some (.str "/claim/cut.py" tf)
  cell : ∃ ocl ocd ocs, K.lookup 88 = some ⟨ocl, ocd, .cell (some (.ref 164)), ocs⟩
  self : mroIn K 164 (.ref 164) = some true
  sup : nsIn K mainGlobals "super" = some none
theorem Acc.keeps {h h' : Heap} {x dx : Addr} {its : Array Value} {n : Nat} {od : Obj} (I : Acc h x dx its n od) (k : Sub h h') : Acc h' x dx its n od := ⟨k _ _ I.at_, k _ _ I.dict⟩
theorem file_ok : ((PW.main.file : Str) == "/claim/cut.py") = true := by with_unfolding_all rfl
theorem top_ok : (PW.main.scope.names.lookup ("super" : Str)).isSome = false := by with_unfolding_all rfl
theorem pushSub (h : Heap) (o : Obj) : Sub h (h.push o) := fun zz zz e => Heap.get?_push_of_some _ e
section
variable {prog : Program} {w : World} {A : Around} {E : Value → Shared → Prop} {s : Shared} {Q : Value → Shared → Prop} {env : Env}
theorem x_cwF0 {pos : Pos} {f : Value} {args : List Expr}
    (h : wpAny (model prog w) A (spliced (backTo pos (starEach args env))) (fun vs s₁ => Kp (model prog w) s₁.heap f ∧ wpAny (model prog w) A (call f vs []) Q E s₁) E s)
    (ha : args.all plainArg = true := by with_unfolding_all rfl) :
    wpAny (model prog w) A (callWith pos f [] (backTo pos (starEach args env)) []) Q E s := x_cwF h ha
end
section
variable {w : World} {A : Around} {E : Value → Shared → Prop} {K : Frag} {mg mb : Str → Option Value} {Q : Value → Shared → Prop} {h : Heap} {gs : Array GenState} {d : Drawn} {t : Nat} {os : OsState} {x dx : Addr} {its : Array Value} {n : Nat} {od : Obj}
theorem count_spec (CF : FnK K 161 "part_count" "_Accumulator.part_count" a_count b_count s_count [("__class__", 88)] .none .none 160 (.ref 154)) (sn : SnK K 160) (C : ClsK K) (S : SupK K) (G : Gd K mg mb h)
    (am : Amb A 3) (I : Acc h x dx its n od)
    (q : ∀ h' t' u, Sub h h' → Q (.int its.size u) ⟨h', gs, d, t', os⟩) :
    wpAny (model PW w) A (call (.ref 161) [.ref x] []) Q E ⟨h, gs, d, t, os⟩ := by
  obtain ⟨ccl, cdd, vs, ccs, tf, hcode, hvs⟩ := sn.code
  obtain ⟨ocl, ocd, ocs, hcell⟩ := sn.cell
  refine call_fnS am.room CF G (fun zz zz e => e) (Nat.le_refl _) (W := []) (by simp) (binds := [("self", .ref x)]) (fun pm => BindsTo.of_eq (by kernel_rfl)) ?_
  intro L h₁ t₁ F N _ kp hL
  have I₁ := I.keeps kp
  refine ks_wpAt_execs_cons (ks_wpAt_Return_some (ks_wpAt_MethodCall (pl := plOf _ _) ?_ (by with_unfolding_all rfl)))
  refine super_node CF G C F (x := x) (by with_unfolding_all rfl) (by with_unfolding_all rfl) I₁ hcode hvs file_ok hcell sn.self sn.sup top_ok ?_
  intro so h₂ _ hso k2 hsz
  have I₂ := I₁.keeps k2
  have X₂ := (G.keeps kp).X.keeps k2
  refine sm_len X₂ C S I₂ hso ?_
  have eb : (h₂.push (boundO "method-wrapper" "list.__len__" x)).get? h₂.objs.size = some (boundO "method-wrapper" "list.__len__" x) := Heap.get?_push_size _ rfl
  with_reducible refine x_cwF0 ?_
  wtm_at "go"
  refine ⟨Kp.bound eb (.inl rfl), ?_⟩
  refine b_list_len eb (I₂.keeps (pushSub _ _)) ?_
  exact q _ _ _ (fun b o e => pushSub _ _ _ _ (k2 _ _ (kp _ _ e)))
end
end Mine
end
-- F4
section
namespace Mine
noncomputable def Bnd (K : Frag) (name qual : Str) (ar : Arguments) (b : List Stmt) (sc : Scope) (clos : List (Str × Addr)) (dV kV : Value) (c : Addr) (ct : Value) (args : Args) (binds : List (Str × Value)) : Prop :=
  ∀ (s : Shared) (pm : Value), K.In s.heap → BindsTo s (fnX name qual ar b sc clos dV kV .none pm none (.ref c) ct) args binds
structure MthK (K : Frag) : Prop where
  bd_init : ∀ x v, Bnd K "__init__" "_Accumulator.__init__" a_init b_init s_init [("__class__", 88)] (.ref 93) .none 100 (.ref 94) ⟨[x, v], []⟩ [("self", x), ("initial_size", v)]
  bd_popf : ∀ x v, Bnd K "pop_from" "_Accumulator.pop_from" a_popf b_popf s_popf [] (.ref 109) .none 115 .none ⟨[x, v], []⟩ [("self", x), ("i", v)]
  bd_reset : ∀ x v, Bnd K "reset" "_Accumulator.reset" a_reset b_reset s_reset [] (.ref 139) .none 145 .none ⟨[x, v], []⟩ [("self", x), ("startval", v)]
  cls : ClsK K
  sup : SupK K
  new : NewK K
  taker : findIn K (.ref 164) "_initial_size" = some none
  init : FnK K 101 "__init__" "_Accumulator.__init__" a_init b_init s_init [("__class__", 88)] (.ref 93) .none 100 (.ref 94)
  sinit : SnK K 100
  push : FnK K 108 "push" "_Accumulator.push" a_push b_push s_push [] .none .none 107 .none
  popf : FnK K 116 "pop_from" "_Accumulator.pop_from" a_popf b_popf s_popf [] (.ref 109) .none 115 .none
  pop : FnK K 124 "pop" "_Accumulator.pop" a_pop b_pop s_pop [("__class__", 88)] .none .none 123 (.ref 117)
  spop : SnK K 123
  len : FnK K 131 "__len__" "_Accumulator.__len__" a_len b_len s_len [] .none .none 130 .none
  str : FnK K 138 "__str__" "_Accumulator.__str__" a_str b_str s_str [] .none .none 137 .none
  reset : FnK K 146 "reset" "_Accumulator.reset" a_reset b_reset s_reset [] (.ref 139) .none 145 .none
  count : FnK K 161 "part_count" "_Accumulator.part_count" a_count b_count s_count [("__class__", 88)] .none .none 160 (.ref 154)
  scount : SnK K 160
  f_push : findIn K (.ref 164) "push" = some (some (.ref 108)) ∧ typeIn K (.ref 108) = some (.type "function")
  f_popf : findIn K (.ref 164) "pop_from" = some (some (.ref 116)) ∧ typeIn K (.ref 116) = some (.type "function")
  f_pop : findIn K (.ref 164) "pop" = some (some (.ref 124)) ∧ typeIn K (.ref 124) = some (.type "function")
  f_reset : findIn K (.ref 164) "reset" = some (some (.ref 146)) ∧ typeIn K (.ref 146) = some (.type "function")
  f_count : findIn K (.ref 164) "part_count" = some (some (.ref 161)) ∧ typeIn K (.ref 161) = some (.type "function")
  f_append : typeIn K (.builtin "list.append") = some (.type "method_descriptor")
theorem IniD.miss {od : Obj} {v : Value} (hi : IniD od v) {name : Str} (hn : (("_initial_size" : Str) == name) = false) : lookIn name od = some none := by
  obtain ⟨hsh, tk, k, rfl⟩ := hi
  rw [lookIn_dict]
  have : (Value.str "_initial_size" tk).isStr name = false := hn
  simp [getL, this, DictEntry.refKey]
theorem of_hide' {h h' : Heap} {x : Addr} (k : Sub (h.hide x) h') : Heap.ExtBut x h h' := fun b o hb e => k b o ((Heap.hide_ne h hb).trans e)
theorem hideSub (h : Heap) (x : Addr) : Sub (h.hide x) h := fun zz zz e => Heap.of_hide e
theorem Kp.fnK {M : Model} {K : Frag} {h : Heap} {f c : Addr} {name qual : Str} {ar : Arguments} {b : List Stmt} {sc : Scope} {cl : List (Str × Addr)} {dV kV ct : Value} (hF : FnK K f name qual ar b sc cl dV kV c ct) (X : K.In h) : Kp M h (.ref f) := by
  obtain ⟨⟨pm, ho⟩, -⟩ := hF
  exact Kp.fn (X _ _ ho) rfl
section
variable {prog : Program} {w : World} {A : Around} {E : Value → Shared → Prop} {K : Frag} {mg mb : Str → Option Value} {Q : Value → Shared → Prop} {h : Heap} {gs : Array GenState} {d : Drawn} {t : Nat} {os : OsState} {x dx : Addr} {its : Array Value} {n : Nat} {od : Obj} {v : Value}
theorem m_count {name : Str} {pl : Sem Bool} {Q : Value × List Value → Shared → Prop} (X : K.In h) (MK : MthK K) (I : Acc h x dx its n od) (hi : IniD od v) (q : Q (.ref 161, [.ref x]) ⟨h, gs, d, t, os⟩) : wpAny (model prog w) A (getMethod (.ref x) "part_count" pl) Q E ⟨h, gs, d, t, os⟩ :=
  acc_method X MK.cls I MK.f_count.1 (.inl MK.f_count.2) (hi.miss (by decide +kernel)) q
theorem pop_spec (MK : MthK K) (G : Gd K mg mb (h.hide x)) (am : Amb A 5) {l : List Value} (I : Acc h x dx l.toArray n od) (hi : IniD od v) (hz : l.length ≤ sizeLine)
    (q : ∀ h' t' r n', Sub (h.hide x) h' → h'.get? x = some (accO dx l.dropLast.toArray n') →
      (l = [] ∧ (∃ a u1 u2, r = .ref a ∧ h'.get? a = some (tupO [.str "" u1, .str "" u2]) ∧ h.objs.size ≤ a) ∨ l.getLast? = some r) → Q r ⟨h', gs, d, t', os⟩) :
    wpAny (model PW w) A (call (.ref 124) [.ref x] []) Q E ⟨h, gs, d, t, os⟩ := by
  obtain ⟨ccl, cdd, vs, ccs, tf, hcode, hvs⟩ := MK.spop.code
  obtain ⟨ocl, ocd, ocs, hcell⟩ := MK.spop.cell
  have hxd : dx ≠ x := ne_of_get I.dict I.at_ (by obtain ⟨_, _, _, rfl⟩ := hi; intro e; cases e)
  have hdx : (h.hide x).get? dx = some od := (Heap.hide_ne h hxd).trans I.dict
  refine call_fnS am.room MK.pop G (hideSub h x) (Nat.le_of_eq (Heap.hide_size h x)) (W := [(x, accO dx l.toArray n)]) ?_ (binds := [("self", .ref x)]) (fun pm => BindsTo.of_eq (by kernel_rfl)) ?_
  · intro p hp
    rcases List.mem_cons.mp hp with rfl | hp
    · exact ⟨I.at_, Heap.hide_self h x⟩
    · cases hp
  intro L h₁ t₁ F N _ kp hL
  have I₁ := I.keeps kp
  have am2 := Amb.deeper (n := 4) (env := envX "_Accumulator.pop" s_pop L 124 (.ref 123) [("__class__", 88)]) am
  refine ks_wpAt_execs_cons (wpAt_of_wpAny ?_)
  wtm_at "go"
  refine m_count (name := "part_count") (G.X.keeps F.keep) MK I₁ hi ?_
  wtm_at "go"
  refine ⟨Kp.fnK MK.count (G.X.keeps F.keep), ?_⟩
  refine count_spec MK.count MK.scount MK.cls MK.sup (G.keeps F.keep) (am2.mono (by decide)) I₁ ?_
  intro h₂ t₂ u k2
  wtm_at "go2"
  refine split_bool ?_ ?_
  · intro he
    have hl : l = [] := by
      have e0 : (l.toArray.size : Int) = 0 := by simpa using he
      rw [List.size_toArray] at e0
      exact List.length_eq_zero_iff.mp (by lia)
    subst hl
    wtm_at "go2"
    with_reducible refine r_newTuple (Fr.sub F k2) (News.keep N k2) ?_
    intro a h₃ F₃ N₃ l1 l2
    refine q h₃ _ _ n F₃.keep ?_ (.inl ⟨rfl, a, _, _, rfl, n0 N₃, ?_⟩)
    · exact n1 N₃
    · exact Nat.le_trans hL (Nat.le_trans (Nat.le_of_lt (Fr.lt (Fr.sub F k2))) l2)
  · intro he
    obtain ⟨p, y, rfl⟩ : ∃ p y, l = p ++ [y] := by
      rcases List.eq_nil_or_concat l with h0 | ⟨p, y, h0⟩
      · subst h0; simp at he
      · exact ⟨p, y, by simpa using h0⟩
    refine wpAny_execs_nil ?_
    have I₂ := I₁.keeps k2
    refine ks_wpAt_execs_cons (ks_wpAt_Return_some (ks_wpAt_MethodCall (pl := plOf _ _) ?_ (by with_unfolding_all rfl)))
    refine super_node MK.pop G MK.cls (Fr.sub F k2) (x := x) (by with_unfolding_all rfl) (by with_unfolding_all rfl) I₂ hcode hvs file_ok hcell MK.spop.self MK.spop.sup top_ok ?_
    intro so h₃ _ hso k3 hsz
    have I₃ := I₂.keeps k3
    have X₃ := (G.keeps F.keep).X.keeps (fun b o e => k3 _ _ (k2 _ _ e))
    refine sm_pop X₃ MK.cls MK.sup I₃ hso ?_
    have eb : (h₃.push (boundO "builtin_function_or_method" "list.pop" x)).get? h₃.objs.size = some (boundO "builtin_function_or_method" "list.pop" x) := Heap.get?_push_size _ rfl
    with_reducible refine x_cwF0 ?_
    wtm_at "go"
    refine ⟨Kp.bound eb (.inr rfl), ?_⟩
    refine b_list_pop (X₃.keeps (pushSub _ _)) MK.cls MK.sup eb (I₃.keeps (pushSub _ _)) hz ?_
    intro h₄ n' hs e₄
    refine q h₄ _ y n' (fun b o e => ?_) ?_ (.inr (by simp))
    · have hb : b ≠ x := by rintro rfl; rw [Heap.hide_self] at e; cases e
      exact (hs.2 b hb).trans (pushSub _ _ _ _ (k3 _ _ (k2 _ _ (kp _ _ (hideSub h x _ _ e)))))
    · rw [e₄]; simp
end
end Mine
end
-- F5
section
namespace Mine
theorem Amb.under {A : Around} {n : Nat} {v : Value} (am : Amb A (n + 1)) : Amb (A.under (.builtin "type.__call__" ⟨[.ref 164, v], []⟩)) n := by
  have h1 : (A.under (.builtin "type.__call__" ⟨[.ref 164, v], []⟩)).depth = A.depth + 1 := rfl
  have h2 : (Code.builtin "type.__call__" ⟨[.ref 164, v], []⟩).cUnits ≤ 10 := by
    first
      | (have : (Code.builtin "type.__call__" ⟨[.ref 164, v], []⟩).cUnits = 4 := rfl; lia)
      | (have : (Code.builtin "type.__call__" ⟨[.ref 164, v], []⟩).cUnits = 1 := rfl; lia)
  exact ⟨am.hd, by rw [h1]; have := am.dp; lia, by have := am.un; show A.units + (Code.builtin "type.__call__" ⟨[.ref 164, v], []⟩).cUnits + 16 * n < _; lia⟩
section
variable {prog : Program} {w : World} {A : Around} {R : Result → Shared → Prop} {K : Frag} {g : Heap} {mg mb : Str → Option Value}
  {f c : Addr} {name qual : Str} {ar : Arguments} {b : List Stmt} {sc : Scope} {dV kV ct : Value} {args : List Value} {kw : List (Str × Value)} {binds : List (Str × Value)} {W : List (Addr × Obj)}
  {h : Heap} {gs : Array GenState} {d : Drawn} {t : Nat} {os : OsState}
theorem code_fnS (am : A.depth < recursionLimit) (hF : FnK K f name qual ar b sc [("__class__", 88)] dV kV c ct) (G : Gd K mg mb g) (sub : Sub g h) (sz : g.objs.size ≤ h.objs.size)
    (hW : ∀ p ∈ W, h.get? p.1 = some p.2 ∧ g.get? p.1 = none)
    (hbind : ∀ pm, BindsTo ⟨h, gs, d, t, os⟩ (fnX name qual ar b sc [("__class__", 88)] dV kV .none pm none (.ref c) ct) ⟨args, kw⟩ binds)
    (q : ∀ L h₁ t₁, Fr g L h₁ (fun y => binds.reverse.lookup y) → News g L h₁ W → (∀ p ∈ W, p.1 < L) → Sub h h₁ → h.objs.size ≤ L →
      PySem.wpAt (model prog w) (A.deeper (envX qual sc L f (.ref c) [("__class__", 88)])) (.func b (envX qual sc L f (.ref c) [("__class__", 88)])) (execs b (envX qual sc L f (.ref c) [("__class__", 88)]))
        (fun fl s' => R (.ok (.ret (match fl with | .ret v => v | _ => .none))) s') (fun zz zz => False) ⟨h₁, gs, d, t₁, os⟩)
    (hloc : (binds.all fun x => decide (sc.names.lookup x.1 = some .local)) = true := by with_unfolding_all rfl)
    (hcell : (sc.names.all fun x => !decide (x.2 = .cell)) = true := by with_unfolding_all rfl)
    (hco : sc.isCoroutine = false := by with_unfolding_all rfl) (hgen : sc.isGenerator = false := by with_unfolding_all rfl) (hk : sc.kind = .function := by with_unfolding_all rfl) :
    codeAny (model prog w) A (.call (.ref f) ⟨args, kw⟩) R ⟨h, gs, d, t, os⟩ := by
  obtain ⟨⟨pm, ho⟩, hcd⟩ := hF
  have X := G.X.keeps sub
  refine (ks_codeAny_call_defAt (fd := fnX name qual ar b sc [("__class__", 88)] dV kV .none pm none (.ref c) ct) (body := b) (binds := binds) am (X _ _ ho) rfl (G.nl.keeps sub) (codeRec_of X hcd) rfl (hbind pm)
    (fun x hx e => by have := List.all_eq_true.mp hcell x hx; rw [e] at this; exact absurd this (by decide)) (locs hloc) (fun h₁ hns hk₁ => ?_) hco hgen hk)
  refine ks_wpAt_mono (q h.objs.size h₁ _ ⟨hns, fun b o e => hk₁ b o (sub b o e), sz⟩ (fun p hp => ⟨hk₁ _ _ (hW p hp).1, Nat.ne_of_lt (Heap.lt_size (hW p hp).1), (hW p hp).2⟩) (fun p hp => Heap.lt_size (hW p hp).1) hk₁ (Nat.le_refl _)) (fun fl s' hl => hl) fun e s' x => x.elim
end
section
variable {w : World} {A : Around} {E : Value → Shared → Prop} {K : Frag} {mg mb : Str → Option Value} {Q : Value → Shared → Prop} {h : Heap} {gs : Array GenState} {d : Drawn} {t : Nat} {os : OsState} {v : Value}
theorem new_spec (MK : MthK K) (G : Gd K mg mb h) (am : Amb A 5)
    (q : ∀ x dx od h' n t', Sub h h' → h.objs.size ≤ dx → h.objs.size ≤ x → Acc h' x dx #[] n od → IniD od v → Q (.ref x) ⟨h', gs, d, t', os⟩) :
    wpAny (model PW w) A (call (.ref 164) [v] []) Q E ⟨h, gs, d, t, os⟩ := by
  obtain ⟨ccl, cdd, vs, ccs, tf, hcode, hvs⟩ := MK.sinit.code
  obtain ⟨ocl, ocd, ocs, hcell⟩ := MK.sinit.cell
  refine wpAny_call (make_acc G.X MK.cls MK.new ?_)
  have am2 := Amb.under (v := v) (n := 4) am
  generalize hh2 : (h.push emptyDict).push (accO h.objs.size #[] 0) = h2
  have k2 : Sub h h2 := fun b o e => hh2 ▸ Heap.get?_push_of_some _ (Heap.get?_push_of_some _ e)
  have ex : h2.get? (h.objs.size + 1) = some (accO h.objs.size #[] 0) := by rw [← hh2]; heap_get
  have ed : h2.get? h.objs.size = some (dictOf [] 0) := by rw [← hh2]; heap_get
  have z2 : h2.objs.size = h.objs.size + 2 := by rw [← hh2, Heap.size_push, Heap.size_push]
  refine code_fnS am2.room MK.init G k2 (by lia) (W := [(h.objs.size, dictOf [] 0), (h.objs.size + 1, accO h.objs.size #[] 0)]) ?_ (binds := [("self", .ref (h.objs.size + 1)), ("initial_size", v)]) (fun pm => MK.bd_init _ _ _ pm (G.X.keeps k2)) ?_
  · intro p hp
    rcases List.mem_cons.mp hp with rfl | hp
    · exact ⟨ed, none_of_size (Nat.le_refl _)⟩
    · rcases List.mem_cons.mp hp with rfl | hp
      · exact ⟨ex, none_of_size (Nat.le_succ _)⟩
      · cases hp
  intro L h₁ t₁ F N _ kp hL
  have X₁ := G.X.keeps F.keep
  refine ks_wpAt_execs_cons (wpAt_of_wpAny (plainObj_wpAny_Assign_Attribute ?_ (by with_unfolding_all rfl)))
  wtm_at "go"
  refine acc_set0 X₁ MK.cls MK.taker F N ?_ (n1 N) ?_
  · exact ne_cons (Nat.succ_ne_self _) ne_nil
  intro h₃ od hi F₃ N₃
  refine ks_wpAt_execs_cons (ks_wpAt_Expr_any (ks_wpAt_MethodCall (pl := plOf _ _) ?_ (by with_unfolding_all rfl)) (by with_unfolding_all rfl) (by with_unfolding_all rfl))
  have I₃ : Acc h₃ (h.objs.size + 1) h.objs.size #[] 0 od := ⟨n1 N₃, n0 N₃⟩
  refine super_node MK.init G MK.cls F₃ (x := h.objs.size + 1) (by with_unfolding_all rfl) (by with_unfolding_all rfl) I₃ hcode hvs file_ok hcell MK.sinit.self MK.sinit.sup top_ok ?_
  intro so h₄ _ hso k4 hsz
  have I₄ := I₃.keeps k4
  have X₄ := (G.keeps F₃.keep).X.keeps k4
  refine sm_init X₄ MK.cls MK.sup I₄ hso ?_
  have eb : (h₄.push (boundO "method-wrapper" "list.__init__" (h.objs.size + 1))).get? h₄.objs.size = some (boundO "method-wrapper" "list.__init__" (h.objs.size + 1)) := Heap.get?_push_size _ rfl
  with_reducible refine x_cwF0 ?_
  wtm_at "go"
  refine ⟨Kp.bound eb (.inl rfl), ?_⟩
  refine b_list_init eb (I₄.keeps (pushSub _ _)) (by simp) ?_
  intro h₅ n' hs e₅
  refine wpAt_of_wpAny (wpAny_execs_nil ⟨rfl, ?_⟩)
  have k5 : ∀ b o, b ≠ h.objs.size + 1 → h₃.get? b = some o → h₅.get? b = some o := fun b o hb e => (hs.2 b hb).trans (pushSub _ _ _ _ (k4 _ _ e))
  refine q _ h.objs.size od h₅ n' _ (fun b o e => ?_) (Nat.le_refl _) (Nat.le_succ _) ⟨e₅, ?_⟩ hi
  · exact k5 b o (Nat.ne_of_lt (Nat.lt_succ_of_lt (Heap.lt_size e))) (F₃.keep b o e)
  · exact k5 _ _ (Nat.ne_of_lt (Nat.lt_succ_self _)) I₃.dict
end
end Mine
end
-- F6
section
namespace Mine
noncomputable abbrev sliceO (vl vu : Value) : Obj := { cls := .type "slice", data := .fields #[vl, vu, .none] }
section
variable {prog : Program} {w : World} {M : Model} {A : Around} {E : Value → Shared → Prop} {K : Frag} {h g : Heap} {L : Addr} {m : Str → Option Value} {news : List (Addr × Obj)} {gs : Array GenState} {d : Drawn} {t : Nat} {os : OsState} {x dx : Addr} {its : Array Value} {n : Nat} {od : Obj} {v : Value} {env : Env} {Q : Value → Shared → Prop}
theorem part_some {s : Shared} {e : Expr} (h : wpAny M A (eval e env) Q E s) : wpAny M A (evalPart (some e) env) Q E s := h
theorem part_none {s : Shared} (h : Q .none s) : wpAny M A (evalPart none env) Q E s := wpAny_pure h
noncomputable def MkSlice (Q : Value → Shared → Prop) (vl vu : Value) (s : Shared) : Prop := Q (.ref s.heap.objs.size) { s with heap := s.heap.push (sliceO vl vu) }
theorem x_Slice {s : Shared} {lower upper : Option Expr} {p : Pos} (h : wpAny M A (evalPart lower env) (fun l s₁ => wpAny M A (evalPart upper env) (fun u s₂ => MkSlice Q l u s₂) E s₁) E s) : wpAny M A (eval (.Slice lower upper none p) env) Q E s :=
  wpAny_Slice (wpAny_mono h (fun l s₁ h₁ => wpAny_mono h₁ (fun u s₂ h₂ => wpAny_pure h₂) fun zz zz x => x) fun zz zz x => x)
theorem r_slice {vl vu : Value} (F : Fr g L h m) (N : News g L h news)
    (q : ∀ sl h', Fr g L h' m → News g L h' ((sl, sliceO vl vu) :: news) → (∀ p ∈ news, p.1 < sl) → Sub h h' → h.objs.size ≤ sl → Q (.ref sl) ⟨h', gs, d, t, os⟩) : MkSlice Q vl vu ⟨h, gs, d, t, os⟩ :=
  q h.objs.size _ (F.push _) (News.push F N _) (fun p hp => Heap.lt_size (N p hp).1) (pushSub _ _) (Nat.le_refl _)
theorem r_getslice {sl : Addr} {vl vu : Value} {lo hi : Option Int} (X : K.In h) (C : ClsK K) (I : Acc h x dx its n od) (F : Fr g L h m) (N : News g L h news) (hs : (sl, sliceO vl vu) ∈ news) (pl : IsPart vl lo) (pu : IsPart vu hi) (hsz : its.size ≤ sizeLine)
    (q : ∀ r h', Fr g L h' m → News g L h' ((r, listOf (slicePick its lo hi none) 0) :: news) → (∀ p ∈ news, p.1 < r) → Sub h h' → h.objs.size ≤ r → Q (.ref r) ⟨h', gs, d, t, os⟩) :
    wpAny (model prog w) A (getItem (.ref x) (.ref sl)) Q E ⟨h, gs, d, t, os⟩ :=
  acc_getslice (s := ⟨h, gs, d, t, os⟩) X C I ⟨_, (N _ hs).1, rfl, rfl⟩ pl pu (q h.objs.size _ (F.push _) (News.push F N _) (fun p hp => Heap.lt_size (N p hp).1) (pushSub _ _) (Nat.le_refl _)) hsz
theorem r_setslice {sl l : Addr} {new : Array Value} {c : Nat} {vl vu : Value} {lo hi : Option Int} {Q : Unit → Shared → Prop} (X : K.In h) (C : ClsK K) (I : Acc h x dx its n od) (F : Fr g L h m) (N : News g L h ((x, accO dx its n) :: news)) (hne : ∀ p ∈ news, p.1 ≠ x)
    (hs : (sl, sliceO vl vu) ∈ news) (pl : IsPart vl lo) (pu : IsPart vu hi) (hl : h.get? l = some (listOf new c)) (hsz : its.size + new.size ≤ sizeLine) (hsz2 : (spliceAt its lo hi new).size ≤ sizeLine)
    (q : ∀ h' n', Fr g L h' m → News g L h' ((x, accO dx (spliceAt its lo hi new) n') :: news) → Heap.SameBut x h h' → Q () ⟨h', gs, d, t, os⟩) :
    wpAny (model prog w) A (setItem (.ref x) (.ref sl) (.ref l)) Q E ⟨h, gs, d, t, os⟩ := by
  have hD := N _ (.head _)
  refine acc_setslice (s := ⟨h, gs, d, t, os⟩) X C I ⟨_, (N _ (.tail _ hs)).1, rfl, rfl⟩ pl pu hl (fun h' n' hsb e => ?_) hsz hsz2
  exact q h' n' (Fr.same F hD.2.1 hD.2.2 hsb) (News.same N hne hsb e) hsb
theorem splice_from (l : List Value) (i : Nat) (hi : i ≤ l.length) : spliceAt l.toArray (some (i : Int)) none #[] = (l.take i).toArray := by
  have h0 : (sliceBounds (some (i : Int)) none none l.toArray.size).1 = i := by
    simp only [sliceBounds, Option.getD_none, show (1 : Int) > 0 from by decide, if_true, List.size_toArray]
    rw [if_neg (by lia)]
    lia
  have h1 : (sliceBounds (some (i : Int)) none none l.toArray.size).2.1 = l.length := by
    simp [sliceBounds]
  unfold spliceAt
  rw [h0, h1]
  have e1 : ((i : Int)).toNat = i := rfl
  have e2 : (max (i : Int) (l.length : Int)).toNat = l.length := zmaxl (by assumption)
  rw [e1, e2]
  simp
theorem splice_all (l new : List Value) : spliceAt l.toArray none none new.toArray = new.toArray := by
  have h0 : (sliceBounds none none none l.toArray.size).1 = 0 := by simp [sliceBounds]
  have h1 : (sliceBounds none none none l.toArray.size).2.1 = l.length := by simp [sliceBounds]
  unfold spliceAt
  rw [h0, h1]
  have e2 : (max (0 : Int) (l.length : Int)).toNat = l.length := by rw [Int.max_eq_right (Int.natCast_nonneg _)]; rfl
  rw [e2]
  simp
theorem r_meth {f : Value} {name : Str} {pl : Sem Bool} {Q : Value × List Value → Shared → Prop} (X : K.In h) (C : ClsK K) (I : Acc h x dx its n od)
    (hf : findIn K (.ref 164) name = some (some f)) (ht : typeIn K f = some (.type "function") ∨ typeIn K f = some (.type "method_descriptor")) (hs : lookIn name od = some none) (q : Q (f, [.ref x]) ⟨h, gs, d, t, os⟩) :
    wpAny (model prog w) A (getMethod (.ref x) name pl) Q E ⟨h, gs, d, t, os⟩ := acc_method (s := ⟨h, gs, d, t, os⟩) X C I hf ht hs q
theorem acc_tail {s : Shared} {value slice : Expr} {i : Value} {ops : List Value} (X : K.In s.heap) (C : ClsK K) (I : Acc s.heap x dx its n od) (hg : wpAny (model prog w) A (getItem (.ref x) i) Q E s)
    (hs : subscripted slice false (.ref x) i = operate ops (getItem (.ref x) i)) : wpAny (model prog w) A (subscriptTail value slice (.ref x) i) Q E s := by
  unfold subscriptTail getitemInPython
  refine wpAny_bind (wpAny_bind (wpAny_bind (I.inst.type.here ((looks_findIn X C.getitem).here ?_))))
  refine wpAny_pure ?_
  rw [hs]
  exact wpAny_bind (wpAny_operating (wpAny_mono hg (fun r s₃ h₃ => wpAny_bind (wpAny_letTemporaryGo (wpAny_pure h₃))) fun zz zz x => x))
end
section
variable {w : World} {A : Around} {E : Value → Shared → Prop} {K : Frag} {mg mb : Str → Option Value} {Q : Value → Shared → Prop} {h : Heap} {gs : Array GenState} {d : Drawn} {t : Nat} {os : OsState} {x dx : Addr} {n : Nat} {od : Obj} {v : Value}
theorem push_spec (MK : MthK K) (G : Gd K mg mb (h.hide x)) (am : Amb A 3) {l : List Value} (I : Acc h x dx l.toArray n od) (hi : IniD od v) (hz : l.length < sizeLine) {v1 v2 : Value}
    (q : ∀ a h' t' n', Sub (h.hide x) h' → h.objs.size ≤ a → h'.get? a = some (tupO [v1, v2]) → h'.get? x = some (accO dx (l ++ [Value.ref a]).toArray n') → Q .none ⟨h', gs, d, t', os⟩) :
    wpAny (model PW w) A (call (.ref 108) [.ref x, v1, v2] []) Q E ⟨h, gs, d, t, os⟩ := by
  refine call_fn am.room MK.push G (hideSub h x) (Nat.le_of_eq (Heap.hide_size h x)) (W := [(x, accO dx l.toArray n)]) ?_ (binds := [("self", .ref x), ("fws", v1), ("string", v2)]) (fun pm => BindsTo.of_eq (by kernel_rfl)) ?_
  · intro p hp
    rcases List.mem_cons.mp hp with rfl | hp
    · exact ⟨I.at_, Heap.hide_self h x⟩
    · cases hp
  intro L h₁ t₁ F N lx kp hL
  have I₁ := I.keeps kp
  refine wpAny_execs_cons ?_
  wtm_at "go"
  refine r_meth (name := "append") (G.X.keeps F.keep) MK.cls I₁ MK.cls.append (.inr MK.f_append) (hi.miss (by decide +kernel)) ?_
  wtm_at "go"
  with_reducible refine r_newTuple F N ?_
  intro a h₂ F₂ N₂ l1 l2
  wtm_at "go"
  have I₂ : Acc h₂ x dx l.toArray n od := ⟨n1 N₂, F₂.keep _ _ ((Heap.hide_ne h (ne_of_get I.dict I.at_ (by obtain ⟨_, _, _, rfl⟩ := hi; intro e; cases e))).trans I.dict)⟩
  refine acc_append (s := ⟨h₂, gs, d, _, os⟩) (G.X.keeps F₂.keep) MK.cls I₂ ?_ (by simpa using Nat.le_of_lt hz)
  intro h₃ hs e₃
  have hax : a ≠ x := Nat.ne_of_gt (l1 (x, accO dx l.toArray n) (.head _))
  wtm_at "go"
  refine q a h₃ _ (n + 1) (fun b o e => ?_) (Nat.le_trans hL (Nat.le_trans (Nat.le_of_lt (Fr.lt F)) l2)) ?_ ?_
  · have hb : b ≠ x := by rintro rfl; rw [Heap.hide_self] at e; cases e
    exact (hs.2 b hb).trans (F₂.keep _ _ e)
  · exact (hs.2 a hax).trans (n0 N₂)
  · rw [e₃, List.push_toArray]
theorem popf_spec (MK : MthK K) (G : Gd K mg mb (h.hide x)) (am : Amb A 3) {l : List Value} (I : Acc h x dx l.toArray n od) (hi : IniD od v) (hz : l.length < sizeLine) {i : Nat} {u : Tok} (hil : i ≤ l.length)
    (q : ∀ a h' t' n' c, Sub (h.hide x) h' → h.objs.size ≤ a → h'.get? a = some (listOf (l.drop i).toArray c) → h'.get? x = some (accO dx (l.take i).toArray n') → Q (.ref a) ⟨h', gs, d, t', os⟩) :
    wpAny (model PW w) A (call (.ref 116) [.ref x, .int i u] []) Q E ⟨h, gs, d, t, os⟩ := by
  refine call_fn am.room MK.popf G (hideSub h x) (Nat.le_of_eq (Heap.hide_size h x)) (W := [(x, accO dx l.toArray n)]) ?_ (binds := [("self", .ref x), ("i", .int i u)]) (fun pm => MK.bd_popf _ _ _ pm (G.X.keeps (hideSub h x))) ?_
  · intro p hp
    rcases List.mem_cons.mp hp with rfl | hp
    · exact ⟨I.at_, Heap.hide_self h x⟩
    · cases hp
  intro L h₁ t₁ F N lx kp hL
  have I₁ := I.keeps kp
  have hdx : (h.hide x).get? dx = some od := (Heap.hide_ne h (ne_of_get I.dict I.at_ (by obtain ⟨_, _, _, rfl⟩ := hi; intro e; cases e))).trans I.dict
  refine wpAny_execs_cons ?_
  wtm_at "go"
  with_reducible refine x_Slice (part_some ?_)
  wtm_at "go"
  with_reducible refine part_none ?_
  refine r_slice F N ?_
  intro sl h₂ F₂ N₂ l1 k2 _
  have I₂ := I₁.keeps k2
  refine acc_tail (G.X.keeps F₂.keep) MK.cls I₂ ?_ (by with_unfolding_all rfl)
  have hz' : l.toArray.size ≤ sizeLine := by simpa using Nat.le_of_lt hz
  refine r_getslice (G.X.keeps F₂.keep) MK.cls I₂ F₂ N₂ (.head _) (.int _ _) .none hz' ?_
  intro r h₃ F₃ N₃ l3 k3 hr
  have I₃ := I₂.keeps k3
  wtm_at "sts"
  intro h₄ F₄ N₄
  wtm_at "go"
  have I₄ : Acc h₄ x dx l.toArray n od := ⟨n2 N₄, F₄.keep _ _ hdx⟩
  refine wpAny_Assign_Subscript ?_ (by with_unfolding_all rfl)
  wtm_at "go"
  with_reducible refine r_newList F₄ N₄ ?_
  intro e h₅ F₅ N₅ l5 l6
  wtm_at "go"
  with_reducible refine x_Slice (part_some ?_)
  wtm_at "go"
  with_reducible refine part_none ?_
  refine r_slice F₅ N₅ ?_
  intro sl2 h₆ F₆ N₆ l7 k6 _
  have hxe := Nat.ne_of_gt (l5 (x, accO dx l.toArray n) (by wtm_at "mm"))
  have hxs2 := Nat.ne_of_gt (l7 (x, accO dx l.toArray n) (by wtm_at "mm"))
  have hxs := Nat.ne_of_gt (l1 (x, accO dx l.toArray n) (by wtm_at "mm"))
  have hxr := Nat.ne_of_gt (l3 (x, accO dx l.toArray n) (by wtm_at "mm"))
  have N₇ := News.sub (l' := (x, accO dx l.toArray n) :: (sl2, sliceO (.int i u) .none) :: (e, listOf ([] : List Value).toArray 0) :: (r, listOf (slicePick l.toArray (some (i : Int)) none none) 0) :: []) N₆ (by wtm_at "prm")
  refine r_setslice (G.X.keeps F₆.keep) MK.cls ⟨n0 N₇, F₆.keep _ _ hdx⟩ F₆ N₇ ?_ (.head _) (.int _ _) .none (n2 N₇) (by simpa using Nat.le_of_lt hz) (by rw [splice_from l i hil, List.size_toArray, List.length_take]; lia) ?_
  · exact ne_cons hxs2 (ne_cons hxe (ne_cons hxr ne_nil))
  intro h₈ n' F₈ N₈ hsb
  rw [splice_from l i hil] at N₈
  wtm_at "go"
  have er : slicePick l.toArray (some (i : Int)) none none = (l.drop i).toArray := slicePick_from' _ _
  rw [er] at N₈
  refine q r h₈ _ n' 0 F₈.keep (Nat.le_trans hL (Nat.le_trans (Nat.le_of_lt (Fr.lt F₂)) hr)) (n3 N₈) (n0 N₈)
end
end Mine
end
-- B19
section
namespace Mine
section
variable {prog : Program} {w : World} {M : Model} {A : Around} {E : Value → Shared → Prop} {h g : Heap} {L : Addr} {m : Str → Option Value} {news : List (Addr × Obj)} {gs : Array GenState} {d : Drawn} {t : Nat} {os : OsState} {env : Env} {Q : Value → Shared → Prop}
theorem r_addL {l b : Addr} {xs ys : List Value} {c c' : Nat} (F : Fr g L h m) (N : News g L h news) (hl : h.get? l = some (listOf xs.toArray c)) (hb : h.get? b = some (listOf ys.toArray c')) (hsz : xs.length + ys.length ≤ sizeLine)
    (q : ∀ r h', Fr g L h' m → News g L h' ((r, listOf (xs ++ ys).toArray 0) :: news) → (∀ p ∈ news, p.1 < r) → Sub h h' → h.objs.size ≤ r → Q (.ref r) ⟨h', gs, d, t, os⟩) :
    wpAny (model prog w) A (binaryOp .Add (.ref l) (.ref b)) Q E ⟨h, gs, d, t, os⟩ := by
  have e : xs.toArray ++ ys.toArray = (xs ++ ys).toArray := by simp
  refine PySem.P.add_list (n := c) (n2 := c') hl hb ?_ (by simpa using hsz)
  rw [e]
  exact q h.objs.size _ (F.push _) (News.push F N _) (fun p hp => Heap.lt_size (N p hp).1) (pushSub _ _) (Nat.le_refl _)
theorem r_sliceL {value slice : Expr} {ops : List Value} {l sl : Addr} {xs : List Value} {c : Nat} {vl vu : Value} {lo hi : Option Int} (F : Fr g L h m) (N : News g L h news) (hl : h.get? l = some (listOf xs.toArray c)) (hs : (sl, sliceO vl vu) ∈ news) (pl : IsPart vl lo) (pu : IsPart vu hi) (hsz : xs.length ≤ sizeLine)
    (q : ∀ r h', Fr g L h' m → News g L h' ((r, listOf (slicePick xs.toArray lo hi none) 0) :: news) → (∀ p ∈ news, p.1 < r) → Sub h h' → h.objs.size ≤ r → Q (.ref r) ⟨h', gs, d, t, os⟩)
    (hsub : subscripted slice false (.ref l) (.ref sl) = operate ops (getItem (.ref l) (.ref sl))) : wpAny (model prog w) A (subscriptTail value slice (.ref l) (.ref sl)) Q E ⟨h, gs, d, t, os⟩ :=
  tail_any (isL hl).typeIs slot_list_getitem.lookup (wpAny_getItem_list_slice (isL hl) ⟨_, (N _ hs).1, rfl, rfl⟩ pl pu .none (by simp) (q h.objs.size _ (F.push _) (News.push F N _) (fun p hp => Heap.lt_size (N p hp).1) (pushSub _ _) (Nat.le_refl _)) (by simpa using hsz)) hsub
end
end Mine
end
-- B20
section
open PyProof.V PySem.Spec PySem.SeqAt
namespace Mine
theorem readsAll_strs {h : Heap} : ∀ {vs : List Value} {ns : List Str}, StrsAre vs ns → ReadsAll h vs (ns.map PyData.str) []
  | _, _, .nil => .nil
  | _, _, .cons k t r => by
    have := ReadsAll.cons (Reads.str (h := h) k t) (readsAll_strs (h := h) r)
    simpa using this
theorem reads_strs {h : Heap} {a : Addr} {vs : List Value} {ns : List Str} {c : Nat} (hl : h.get? a = some (listOf vs.toArray c)) (hi : StrsAre vs ns) : Reads h (.ref a) (.list (ns.map PyData.str)) [a] :=
  Reads.list hl rfl rfl (by simpa using readsAll_strs hi)
theorem lay_strs : ∀ ns : List Str, ns.all PyData.strOk = true → PyData.canLayAll0 (ns.map PyData.str) = true
  | [], _ => by simp [PyData.canLayAll0]
  | n :: r, h => by
    rw [List.all_cons, Bool.and_eq_true] at h
    simp [PyData.canLayAll0, PyData.canLay0, lay_strs r h.2, h.1]
theorem depth_strs : ∀ ns : List Str, PyData.depthAll (ns.map PyData.str) ≤ 1
  | [] => by simp [PyData.depthAll]
  | n :: r => by
    have := depth_strs r
    simp only [List.map_cons, PyData.depthAll, PyData.depth]
    lia
theorem shaped_strs (ns : List Str) (hok : ns.all PyData.strOk = true) : shaped (.list (ns.map PyData.str)) = true := by
  have h1 := depth_strs ns
  have h2 : PyData.depth (.list (ns.map PyData.str)) ≤ 64 := by simp only [PyData.depth]; lia
  show (PyData.canLay0 (.list (ns.map PyData.str)) && decide (PyData.depth (.list (ns.map PyData.str)) ≤ 64)) = true
  rw [Bool.and_eq_true]
  exact ⟨by simp only [PyData.canLay0]; exact lay_strs ns hok, decide_eq_true h2⟩
theorem noMix_strs : ∀ ns ms : List Str, noMixAll (ns.map PyData.str) (ms.map PyData.str) = true
  | [], [] => by simp [noMixAll]
  | [], _ :: _ => by simp [noMixAll]
  | _ :: _, [] => by simp [noMixAll]
  | _ :: r, _ :: q => by simp [noMixAll, noMix, noMix_strs r q]
theorem same_strs : ∀ ns ms : List Str, PySem.Spec.sameAll (ns.map PyData.str) (ms.map PyData.str) = decide (ns = ms)
  | [], [] => by simp [PySem.Spec.sameAll]
  | [], _ :: _ => by simp [PySem.Spec.sameAll]
  | _ :: _, [] => by simp [PySem.Spec.sameAll]
  | n :: r, k :: q => by
    simp only [List.map_cons, PySem.Spec.sameAll, PySem.Spec.same, same_strs r q]
    by_cases h : n = k <;> simp [h]
section
variable {prog : Program} {w : World} {A : Around} {E : Value → Shared → Prop} {h : Heap} {gs : Array GenState} {d : Drawn} {t : Nat} {os : OsState} {Q : Value → Shared → Prop}
theorem r_neStrs {a b : Addr} {vs us : List Value} {ns ms : List Str} {c c' : Nat} (hl : h.get? a = some (listOf vs.toArray c)) (hi : StrsAre vs ns) (hl' : h.get? b = some (listOf us.toArray c')) (hi' : StrsAre us ms) (hu : A.units + 64 < cLine) (ho1 : ns.all PyData.strOk = true) (ho2 : ms.all PyData.strOk = true)
    (q : Q (.bool (!decide (ns = ms))) ⟨h, gs, d, t, os⟩) : wpAny (model prog w) A (compareOp .NotEq (.ref a) (.ref b)) Q E ⟨h, gs, d, t, os⟩ :=
  ne_dataH_same (reads_strs hl hi) (reads_strs hl' hi') (shaped_strs ns ho1) (shaped_strs ms ho2) hu (by simp only [noMix]; exact noMix_strs ns ms) (by simp only [PySem.Spec.same]; rw [same_strs]; exact q)
theorem r_split {x y : Str} {u u' : Tok} {g : Heap} {L : Addr} {m : Str → Option Value} {news : List (Addr × Obj)} (F : Fr g L h m) (N : News g L h news) (hy : (y.length == 0) = false) (hsz : x.length + 2 ≤ sizeLine)
    (q : ∀ l vs h' k, StrsAre vs (Txt.split x y) → Fr g L h' m → News g L h' ((l, listOf (List.toArray vs) 0) :: news) → (∀ p ∈ news, p.1 < l) → Q (.ref l) ⟨h', gs, d, k, os⟩) :
    wpAny (model prog w) A (call (.builtin "str.split") [.str x u, .str y u'] []) Q E ⟨h, gs, d, t, os⟩ :=
  splitN1 (s := ⟨h, gs, d, t, os⟩) F N hy (fun l h' k e F' N' => q h.objs.size (strValues l) h' k (e ▸ strsAre_of_values l) F' N' (fun p hp => Heap.lt_size (N p hp).1)) hsz
theorem r_index {l : Addr} {vs : List Value} {ys : List Str} {x : Str} {u : Tok} {c : Nat} {j : Nat} (hl : h.get? l = some (listOf vs.toArray c)) (hi : StrsAre vs ys) (hj : ys[j]? = some x) (hno : ∀ i, i < j → ys[i]? ≠ some x) (hsz : vs.length < 1000)
    (q : Q (.int j t) ⟨h, gs, d, t + 1, os⟩) : wpAny (model prog w) A (call (.builtin "list.index") [.ref l, .str x u] []) Q E ⟨h, gs, d, t, os⟩ := by
  have hlen := StrsAre.len_eq hi
  have hjl : j < vs.length := by rw [hlen]; exact (List.getElem?_eq_some_iff.mp hj).1
  obtain ⟨tj, htj⟩ := StrsAre.at hi hj
  refine call_meets PySem.F.slot_list_index ⟨_, hl, rfl⟩ PySem.F.entry_list_index (PySem.F.args_list_index_2 _ _) (PySem.MeetsSeq.list_index l vs.toArray c (.str x u) (isStrOf x) (fun y hy => eq_isStrOf x u hi y (by simpa using hy)) j (by simpa using hjl) (by lia) ?_ ?_) ⟨hl, q⟩
  · have : vs.toArray[j]'(by simpa using hjl) = .str x tj := by
      have := (List.getElem?_eq_some_iff.mp htj).2
      simpa using this
    rw [this]
    simp [isStrOf]
  · intro i hi' hij
    have hil : i < vs.length := by lia
    obtain ⟨y, ty, hv, hy⟩ := StrsAre.item hi i vs[i] (List.getElem?_eq_getElem hil)
    have : vs.toArray[i]'hi' = .str y ty := by simpa using hv
    rw [this]
    have hne : y ≠ x := fun e => hno i hij (e ▸ hy)
    simpa [isStrOf] using hne
end
end Mine
namespace Mine
section
variable {M : Model} {A : Around} {E : Value → Shared → Prop} {Q : Value → Shared → Prop} {s : Shared} {env : Env}
theorem x_baseC {f : Expr} {a : Expr} {as : List Expr} {ks : List Keyword} {p : Pos} {attr : Str} (h : wpAny M A (eval (.Call f (a :: as) ks p) env) Q E s) : wpAny M A (attributeBase (.Call f (a :: as) ks p) attr env (eval (.Call f (a :: as) ks p) env)) Q E s := by
  have e : attributeBase (.Call f (a :: as) ks p) attr env (eval (.Call f (a :: as) ks p) env) = eval (.Call f (a :: as) ks p) env := by
    cases f <;> rfl
  rw [e]; exact h
end
end Mine
namespace Mine
theorem n4 {g h : Heap} {L a : Addr} {o : Obj} {p p2 p3 p4 : Addr × Obj} {l : List (Addr × Obj)} (N : News g L h (p :: p2 :: p3 :: p4 :: (a, o) :: l)) : h.get? a = some o := (N _ (.tail _ (.tail _ (.tail _ (.tail _ (.head _)))))).1
theorem n5 {g h : Heap} {L a : Addr} {o : Obj} {p p2 p3 p4 p5 : Addr × Obj} {l : List (Addr × Obj)} (N : News g L h (p :: p2 :: p3 :: p4 :: p5 :: (a, o) :: l)) : h.get? a = some o := (N _ (.tail _ (.tail _ (.tail _ (.tail _ (.tail _ (.head _))))))).1
end Mine
end
-- B21
section
namespace Mine
inductive KwE : List DictEntry → List (Str × Value) → Prop
  | nil : KwE [] []
  | cons (hsh : Int) (k : Str) (t : Tok) (v : Value) {es ex} : KwE es ex → KwE (⟨hsh, .str k t, v⟩ :: es) ((k, v) :: ex)
theorem KwE.keys {es ex} (K : KwE es ex) : ∀ e ∈ es, ∃ k u, e.key = .str k u ∧ k ∈ ex.map (·.1) := by
  induction K with
  | nil => intro e he; cases he
  | cons hsh k t v _ ih =>
    intro e he
    rcases List.mem_cons.mp he with rfl | he
    · exact ⟨k, t, rfl, .head _⟩
    · obtain ⟨k', u, h1, h2⟩ := ih e he
      exact ⟨k', u, h1, .tail _ h2⟩
theorem KwE.len {es ex} (K : KwE es ex) : es.length = ex.length := by
  induction K with
  | nil => rfl
  | cons hsh k t v _ ih => simp [ih]
theorem KwE.at {es ex} (K : KwE es ex) {i : Nat} {e : DictEntry} (he : es[i]? = some e) : ∃ k u, e.key = .str k u ∧ (ex.map (·.1))[i]? = some k ∧ ex[i]? = some (k, e.val) := by
  induction K generalizing i with
  | nil => simp at he
  | cons hsh k t v _ ih =>
    cases i with
    | zero => simp at he; subst he; exact ⟨k, t, rfl, rfl, rfl⟩
    | succ i => simp at he; simpa using ih he
theorem kwE_of (P : Params) : ∀ (ex : List (Str × Value)) (t : Tok), KwE (kwEs P t ex) ex
  | [], _ => .nil
  | (k, v) :: r, t => .cons _ k _ v (kwE_of P r _)
theorem loop_es {es ex} (K : KwE es ex) {f : DictEntry → PUnit → Sem (ForInStep PUnit)} (hf : ∀ hsh k t v, f ⟨hsh, .str k t, v⟩ PUnit.unit = pure (.yield PUnit.unit)) : (forIn es.toArray PUnit.unit f : Sem PUnit) = pure PUnit.unit := by
  rw [List.forIn_toArray]
  induction K with
  | nil => rfl
  | cons hsh k t v _ ih => rw [List.forIn_cons, hf]; exact ih
section
variable {prog : Program} {w : World} {A : Around} {E : Value → Shared → Prop} {h g : Heap} {L : Addr} {m : Str → Option Value} {news : List (Addr × Obj)} {gs : Array GenState} {d : Drawn} {t : Nat} {os : OsState}
noncomputable abbrev dictOf' (es : Array DictEntry) (n : Nat) : Obj := { cls := .type "dict", data := .dict es n }
theorem loop_put {D a : Addr} {es : List DictEntry} {n : Nat} {body : Nat → PUnit → Sem (ForInStep PUnit)} {Q : Unit → Shared → Prop}
    (step : ∀ i h c (Q' : ForInStep PUnit → Shared → Prop), i < es.length → Fr g L h m → News g L h ((D, dictOf (es.take i) c) :: news) → h.get? a = some (dictOf es n) →
      (∀ h' c', Fr g L h' m → News g L h' ((D, dictOf (es.take (i + 1)) c') :: news) → h'.get? a = some (dictOf es n) → Q' (.yield PUnit.unit) ⟨h', gs, d, t, os⟩) → wpAny (model prog w) A (body i PUnit.unit) Q' E ⟨h, gs, d, t, os⟩) :
    ∀ (k i : Nat) (h : Heap) (c : Nat), i + k = es.length → Fr g L h m → News g L h ((D, dictOf (es.take i) c) :: news) → h.get? a = some (dictOf es n) →
      (∀ h' c', Fr g L h' m → News g L h' ((D, dictOf es c') :: news) → Q PUnit.unit ⟨h', gs, d, t, os⟩) → wpAny (model prog w) A (forIn (List.range' i k) PUnit.unit body) Q E ⟨h, gs, d, t, os⟩
  | 0, i, h, c, hik, F, N, ha, q => by
    rw [List.range'_zero, List.forIn_nil]
    have e : es.take i = es := List.take_of_length_le (by lia)
    rw [e] at N
    exact wpAny_pure (q h c F N)
  | k + 1, i, h, c, hik, F, N, ha, q => by
    rw [List.range'_succ, List.forIn_cons]
    refine wpAny_bind (step i h c _ (by lia) F N ha fun h' c' F' N' ha' => ?_)
    exact loop_put step k (i + 1) h' c' (by lia) F' N' ha' q
theorem r_merge {D a : Addr} {es : List DictEntry} {ex : List (Str × Value)} {n : Nat} {Q : Unit → Shared → Prop} (F : Fr g L h m) (N : News g L h ((D, dictOf [] 0) :: news)) (hne : ∀ p ∈ news, p.1 ≠ D) (ha : h.get? a = some (dictOf es n)) (haD : a ≠ D)
    (hK : KwE es ex) (hn : (ex.map (·.1)).Nodup) (haS : (a == sysModules) = false) (hz : es.length ≤ 100)
    (q : ∀ h' k, Fr g L h' m → News g L h' ((D, dictOf es k) :: news) → Q () ⟨h', gs, d, t, os⟩) : wpAny (model prog w) A (mergeMapping D (.ref a) true) Q E ⟨h, gs, d, t, os⟩ := by
  have hT : (⟨h, gs, d, t, os⟩ : Shared).TypeIs (.ref a) "dict" := ⟨_, ha, rfl⟩
  unfold mergeMapping
  refine wpAny_bind (wpAny_isInstance hT isSubtype_dict_dict ?_)
  rw [if_pos rfl]
  refine wpAny_bind (wpAny_specialOf hT PySem.F.slot_dict_iter.lookup (wpAny_bind (wpAny_pure ?_)))
  rw [show (some (Value.builtin "dict.__iter__") == some (.builtin "dict.__iter__")) = true by decide +kernel]
  dsimp only
  rw [if_neg (by rw [haS]; decide)]
  refine wpAny_bind (wpAny_dictEntries (N _ (.head _)).1 rfl ?_)
  rw [if_pos (by rfl)]
  refine wpAny_bind (wpAny_dictEntries ha rfl ?_)
  rw [loop_es hK (fun zz zz zz zz => rfl)]
  refine wpAny_bind (wpAny_pure ?_)
  refine wpAny_bind (wpAny_dictEntries ha rfl ?_)
  refine wpAny_bind (wpAny_dictEpoch ha rfl ?_)
  rw [List.size_toArray, List.range_eq_range']
  refine wpAny_bind (loop_put (a := a) (D := D) (es := es) (n := n) ?_ es.length 0 h 0 (by lia) F N ha fun h' c' F' N' => wpAny_pure (q h' c' F' N'))
  intro i h c Q' hi F N ha q'
  refine wpAny_bind (wpAny_dictEntries ha rfl ?_)
  have he : es.toArray[i]? = some es[i] := by simp [hi]
  rw [he]
  obtain ⟨k, u, hk, hki, -⟩ := hK.at (List.getElem?_eq_getElem hi)
  dsimp only
  have hfind : ((es.take i).toArray.findIdx? fun e => e.key.isStr k) = none := by
    rw [Array.findIdx?_eq_none_iff]
    intro e hem
    obtain ⟨j, hj, hje⟩ := List.mem_iff_getElem.mp (show e ∈ es.take i from by simpa using hem)
    rw [List.length_take] at hj
    have hjl : j < es.length := by lia
    have hje' : es[j]? = some e := by rw [List.getElem?_eq_getElem hjl, ← hje]; simp
    obtain ⟨k', u', hk', hkj, -⟩ := hK.at hje'
    rw [hk']
    have hne : k' ≠ k := by
      rintro rfl
      have h1 : j < (ex.map (·.1)).length := (List.getElem?_eq_some_iff.mp hkj).1
      have h2 : i < (ex.map (·.1)).length := (List.getElem?_eq_some_iff.mp hki).1
      have e1 := (List.getElem?_eq_some_iff.mp hkj).2
      have e2 := (List.getElem?_eq_some_iff.mp hki).2
      exact (List.pairwise_iff_getElem.mp hn) j i h1 h2 (by lia) (e1.trans e2.symm)
    show (k' == k) = false
    exact beq_eq_false_iff_ne.mpr hne
  have hall : ((es.take i).toArray.all fun e => isExactStrKey e.key) = true := by
    rw [Array.all_eq_true]
    intro j hj
    have hjl : j < es.length := by
      have : j < (es.take i).length := by simpa using hj
      rw [List.length_take] at this; lia
    obtain ⟨k', u', hk', -⟩ := hK.at (List.getElem?_eq_getElem hjl)
    have : ((es.take i).toArray[j]'hj) = es[j] := by simp
    rw [this, hk']
    rfl
  have find : ∀ {Q' : Option Nat → Shared → Prop} {E' : Value → Shared → Prop}, Q' none ⟨h, gs, d, t, os⟩ → wpAny (model prog w) A (dictFind D es[i].key es[i].hash) Q' E' ⟨h, gs, d, t, os⟩ := by
    intro Q' E' hq
    rw [hk]
    refine KTD.kt_dictFind_strs (N _ (.head _)).1 rfl hall ?_
    rw [hfind]
    exact hq
  refine wpAny_bind (wpAny_holding ?_)
  rw [if_pos rfl]
  refine wpAny_bind (find ?_)
  rw [if_neg (by decide)]
  unfold dictPut
  refine wpAny_bind (find ?_)
  dsimp only
  have hD := N _ (.head _)
  have hsb : Heap.SameBut D h (h.update D (Obj.mapDictKeys fun x => x.push { hash := es[i].hash, key := es[i].key, val := es[i].val })) := Heap.SameBut.update ..
  have ho' : (h.update D (Obj.mapDictKeys fun x => x.push { hash := es[i].hash, key := es[i].key, val := es[i].val })).get? D = some (dictOf (es.take (i + 1)) (c + 1)) := by
    rw [Heap.get?_update_self _ hD.1 rfl]
    show some (dictOf' ((es.take i).toArray.push es[i]) (c + 1)) = _
    rw [List.push_toArray, List.take_succ, List.getElem?_eq_getElem hi]
    rfl
  refine wpAny_updateDictKeys hD.1 rfl ?_ ?_ ?_
  · have ha' := (hsb.2 a haD).trans ha
    refine wpAny_bind (wpAny_dictEpoch ha' rfl ?_)
    rw [if_neg (by simp)]
    exact wpAny_pure (q' _ (c + 1) (Fr.same F hD.2.1 hD.2.2 hsb) (News.same N hne hsb ho') ha')
  · simp [sizeLine_eq]; lia
  · simp
end
end Mine
end
-- B22
section
namespace Mine
section
variable {prog : Program} {w : World} {A : Around} {E : Value → Shared → Prop} {h g : Heap} {L : Addr} {m : Str → Option Value} {news : List (Addr × Obj)} {gs : Array GenState} {d : Drawn} {t : Nat} {os : OsState} {env : Env}
theorem KwE.map {es ex} (K : KwE es ex) : ∀ (acc : List (Str × Value)) (f : DictEntry → List (Str × Value) → Sem (ForInStep (List (Str × Value)))), (∀ hsh k t v acc, f ⟨hsh, .str k t, v⟩ acc = pure (.yield (acc ++ [(k, v)]))) →
    (forIn es.toArray acc f : Sem (List (Str × Value))) = pure (acc ++ ex) := by
  intro acc f hf
  rw [List.forIn_toArray]
  induction K generalizing acc with
  | nil => simp
  | cons hsh k t v _ ih =>
    rw [List.forIn_cons, hf]
    simp only [pure_bind]
    rw [ih]
    simp
theorem callWith_kk {pos p : Pos} {f a : Addr} {args : List Expr} {e : Expr} {vs : List Value} {es : List DictEntry} {ex : List (Str × Value)} {n : Nat} {Q : Value → Shared → Prop} (F : Fr g L h m) (N : News g L h news) (ha : (a, dictOf es n) ∈ news)
    (hK : KwE es ex) (hn : (ex.map (·.1)).Nodup) (haS : (a == sysModules) = false) (hz : es.length ≤ 100)
    (hk : ∀ h', Sub g h' → Looks (model prog w) h' (keeperOf (.ref f)) .frame)
    (hs : ∀ {Q : List Value → Shared → Prop} {E : Value → Shared → Prop} {h : Heap} {t : Nat}, Fr g L h m → Q vs ⟨h, gs, d, t, os⟩ → wpAny (model prog w) A (spliced (backTo pos (starEach args env))) Q E ⟨h, gs, d, t, os⟩)
    (hx : ∀ {Q : Value → Shared → Prop} {E : Value → Shared → Prop} {h : Heap} {t : Nat}, Fr g L h m → Q (.ref a) ⟨h, gs, d, t, os⟩ → wpAny (model prog w) A (eval e env) Q E ⟨h, gs, d, t, os⟩)
    (q : ∀ h' D k t', Fr g L h' m → News g L h' ((D, dictOf es k) :: news) → wpAny (model prog w) A (call (.ref f) vs ex) Q E ⟨h', gs, d, t', os⟩)
    (hpl : args.all plainArg = true := by with_unfolding_all rfl) :
    wpAny (model prog w) A (callWith pos (.ref f) [] (backTo pos (starEach args env)) (backToKw pos (keywordEach [⟨none, e, p⟩] env))) Q E ⟨h, gs, d, t, os⟩ := by
  have main : ∀ (kws : List (Option Str × Sem Value)), kws = backToKw pos (keywordEach [⟨none, e, p⟩] env) → wpAny (model prog w) A (evalArgs (.ref f) true (backTo pos (starEach args env)) kws) (fun a s₁ => a = ⟨vs, ex⟩ ∧ ∃ h' D k t', s₁ = ⟨h', gs, d, t', os⟩ ∧ Fr g L h' m ∧ News g L h' ((D, dictOf es k) :: news)) E ⟨h, gs, d, t, os⟩ := by
    intro kws hkws
    have hall : ¬ (kws.all (·.1.isSome)) = true := by
      subst hkws
      show ¬ ((false && _) = true)
      simp
    have mk : ∀ {Q : Addr → Shared → Prop} {h : Heap} {t : Nat}, Fr g L h m → News g L h news → (∀ h' D k, Fr g L h' m → News g L h' ((D, dictOf es k) :: news) → ∀ t', Q D ⟨h', gs, d, t', os⟩) → wpAny (model prog w) A (mergedKeywords (.ref f) kws) Q E ⟨h, gs, d, t, os⟩ := by
      intro Q h t F N q
      subst hkws
      unfold mergedKeywords
      refine wpAny_bind (wpAny_alloc ?_)
      refine wpAny_bind (wpAny_holding ?_)
      show wpAny _ _ (forIn [((none : Option Str), _)] _ _ >>= _) _ _ _
      rw [List.forIn_cons]
      dsimp only
      rw [if_pos (by rfl)]
      have F1 := F.push (dictOf [] 0)
      have N1 := News.push F N (dictOf [] 0)
      have hne : ∀ p ∈ news, p.1 ≠ h.objs.size := fun p hp => Nat.ne_of_lt (Heap.lt_size (N p hp).1)
      refine wpAny_bind (wpAny_bind (wpAny_bind (wpAny_pure (wpAny_bind (wpAny_bind (hx F1 (wpAny_bind (wpAny_standAt (wpAny_pure ?_)))))))))
      have ha1 := (N1 _ (.tail _ ha)).1
      have haD := hne _ ha
      refine wpAny_bind (wpAny_onRaise (wpAny_holding (wpAny_tryCatch (wpAny_onRaise (r_merge F1 N1 hne ha1 haD hK hn haS hz fun h' k F' N' => ?_)))))
      refine wpAny_pure ?_
      dsimp only
      rw [List.forIn_nil]
      refine wpAny_pure ?_
      rw [if_pos (by rfl)]
      exact wpAny_pure (wpAny_pure (q h' _ k F' N' _))
    have go1 : ∀ {h : Heap} {t : Nat}, Fr g L h m → News g L h news → wpAny (model prog w) A (mergedKeywords (.ref f) kws >>= fun dd => holding (.ref dd :: vs) (keywordsIn (.ref f) dd) >>= fun kw => pure (⟨vs, kw⟩ : Args)) (fun a s₁ => a = ⟨vs, ex⟩ ∧ ∃ h' D k t', s₁ = ⟨h', gs, d, t', os⟩ ∧ Fr g L h' m ∧ News g L h' ((D, dictOf es k) :: news)) E ⟨h, gs, d, t, os⟩ := by
      intro h t F N
      refine wpAny_bind (mk F N fun h' D k F' N' t' => ?_)
      refine wpAny_bind (wpAny_holding ?_)
      unfold keywordsIn
      refine wpAny_bind (wpAny_dictEntries (N' _ (.head _)).1 rfl ?_)
      rw [hK.map [] _ (fun zz zz zz zz zz => rfl)]
      refine wpAny_bind (wpAny_pure (wpAny_pure (wpAny_pure ⟨rfl, h', D, k, t', rfl, F', N'⟩)))
    unfold evalArgs
    cases args with
    | nil =>
      show wpAny _ _ (spliced (backTo pos (starEach [] env)) >>= _) _ _ _
      refine wpAny_bind (hs F ?_)
      refine wpAny_holding ?_
      rw [if_neg hall]
      exact go1 F N
    | cons x r =>
      have hx0 : plainArg x = true := by rw [List.all_cons, Bool.and_eq_true] at hpl; exact hpl.1
      rw [starEach_more hx0] at hs ⊢
      show wpAny _ _ (spliced (backTo pos ((false, eval x env) :: starEach r env)) >>= _) _ _ _
      refine wpAny_bind (hs F ?_)
      refine wpAny_holding ?_
      rw [if_neg hall]
      exact go1 F N
  unfold callWith
  refine wpAny_bind (wpAny_holding (wpAny_mono (main _ rfl) (fun a s₁ h₁ => ?_) fun zz zz x => x))
  obtain ⟨rfl, h', D, k, t', rfl, F', N'⟩ := h₁
  refine wpAny_bind (wpAny_standAt ?_)
  refine wpAny_bind ((hk h' F'.keep).here ?_)
  have hst : ((backTo pos (starEach args env)).any (·.1) || (backToKw pos (keywordEach [⟨none, e, p⟩] env)).any (·.1.isNone)) = true := by
    show (_ || (true || _)) = true
    simp
  rw [hst]
  dsimp only
  refine wpAny_bind ?_
  unfold callMarked
  refine Calls.wpAny_keep (wpAny_mono (q h' D k t' F' N') (fun r s₂ hr => wpAny_bind (wpAny_holding (wpAny_point (wpAny_pure hr)))) fun zz zz x => x)
end
end Mine
end
-- B23
section
namespace Mine
section
variable {prog : Program} {w : World} {A : Around} {E : Value → Shared → Prop} {K : Frag} {g : Heap} {mg mb : Str → Option Value} {Q : Value → Shared → Prop}
  {f c : Addr} {name qual : Str} {ar : Arguments} {b : List Stmt} {sc : Scope} {clos : List (Str × Addr)} {dV kV ct : Value} {args : List Value} {front ex : List (Str × Value)} {nm : Str} {W : List (Addr × Obj)}
  {h : Heap} {gs : Array GenState} {d : Drawn} {t : Nat} {os : OsState}
theorem set_new {D : Addr} {es : List DictEntry} {n : Nat} {k : Str} {v : Value} {Q : Unit → Shared → Prop} (hD : h.get? D = some (dictOf es n))
    (hs : ∀ e ∈ es, e.key.isStr k = false) (hr : ∀ e ∈ es, e.refKey = false)
    (q : ∀ h', Heap.SameBut D h h' → h'.get? D = some (dictOf (es ++ [⟨PyData.keyHash w.params k, .str k t, v⟩]) (n + 1)) → Q () ⟨h', gs, d, t + 1, os⟩) :
    wpAny (model prog w) A (nsSet D k v) Q E ⟨h, gs, d, t, os⟩ := by
  have e1 : es.any (·.key.isStr k) = false := by
    cases q : es.any (·.key.isStr k) with
    | false => rfl
    | true => obtain ⟨e, he, z⟩ := List.any_eq_true.mp q; rw [hs e he] at z; cases z
  have e2 : es.any (·.refKey) = false := by
    cases q : es.any (·.refKey) with
    | false => rfl
    | true => obtain ⟨e, he, z⟩ := List.any_eq_true.mp q; rw [hr e he] at z; cases z
  have e : Obj.putName k (PyData.keyHash w.params k) (.str k t) v (dictOf es n) = dictOf (es ++ [⟨PyData.keyHash w.params k, .str k t, v⟩]) (n + 1) := by
    rw [putName_dict, putL_new hs]
    show dictOf _ (if es.any (·.key.isStr k) then n else n + 1) = _
    rw [e1, if_neg Bool.false_ne_true]
  have c : aRefKeyMayBeTheName k es.toArray = false := by
    rw [aRefKeyMayBeTheName_at, ← Array.any_toList, ← Array.any_toList]
    show (!es.any (·.key.isStr k) && es.any (·.refKey)) = false
    rw [e2, Bool.and_false]
  unfold nsSet
  refine wpAny_bind (wpAny_bind (wpAny_askSetting (wpAny_pure (wpAny_bind (wpAny_mkText (wpAny_bind (wpAny_loadPart hD ?_)))))))
  dsimp only
  rw [c]
  refine wpAny_updatePart hD (q _ (Heap.SameBut.update ..) ?_)
  exact (Heap.get?_update_self (Obj.putName k (PyData.keyHash w.params k) (.str k t) v) hD (by rw [e]; rfl)).trans (congrArg some e)
theorem KwE.snoc {es ex} (K : KwE es ex) (hsh : Int) (k : Str) (u : Tok) (v : Value) : KwE (es ++ [⟨hsh, .str k u, v⟩]) (ex ++ [(k, v)]) := by
  induction K with
  | nil => exact .cons hsh k u v .nil
  | cons a b c d _ ih => exact .cons a b c d ih
theorem SameBut.trans {D : Addr} {a b c : Heap} (h1 : Heap.SameBut D a b) (h2 : Heap.SameBut D b c) : Heap.SameBut D a c := ⟨h2.1.trans h1.1, fun x hx => (h2.2 x hx).trans (h1.2 x hx)⟩
theorem fill_new {D : Addr} {Q : PUnit → Shared → Prop} : ∀ (ex don : List (Str × Value)) (h : Heap) (t : Nat) (es : List DictEntry) (n : Nat), h.get? D = some (dictOf es n) → KwE es don → ((don ++ ex).map (·.1)).Nodup →
    (∀ h' t' es' n', Heap.SameBut D h h' → h'.get? D = some (dictOf es' n') → KwE es' (don ++ ex) → Q ⟨⟩ ⟨h', gs, d, t', os⟩) →
    wpAny (model prog w) A (forIn ex PUnit.unit fun x zz => (nsSet D x.1 x.2 >>= fun zz => pure (ForInStep.yield PUnit.unit))) Q E ⟨h, gs, d, t, os⟩
  | [], don, h, t, es, n, hD, K, _, q => by
    rw [List.forIn_nil]
    exact wpAny_pure (q h t es n ⟨rfl, fun zz zz => rfl⟩ hD (by rw [List.append_nil]; exact K))
  | x :: r, don, h, t, es, n, hD, K, hn, q => by
    rw [List.forIn_cons]
    have hs : ∀ e ∈ es, e.key.isStr x.1 = false := by
      intro e he
      obtain ⟨k, u, hk, hm⟩ := K.keys e he
      rw [hk]
      show (k == x.1) = false
      rw [List.map_append] at hn
      exact beq_eq_false_iff_ne.mpr fun hkx => (List.nodup_append.mp hn).2.2 k hm x.1 (.head _) hkx
    have hr : ∀ e ∈ es, e.refKey = false := by
      intro e he
      obtain ⟨k, u, hk, -⟩ := K.keys e he
      unfold DictEntry.refKey
      rw [hk]
    refine wpAny_bind (wpAny_bind (set_new hD hs hr fun h' hsb e' => wpAny_pure ?_))
    refine fill_new r (don ++ [x]) h' (t + 1) _ _ e' (K.snoc _ _ _ _) (by rw [List.append_assoc]; exact hn) fun h'' t' es' n' hsb' e'' K' => ?_
    exact q h'' t' es' n' (SameBut.trans hsb hsb') e'' (by rw [List.append_assoc] at K'; exact K')
noncomputable def kwBinds (front ex : List (Str × Value)) (nm : Str) : Sem (List (Str × Value)) :=
  alloc (dictOf [] 0) >>= fun D => (forIn ex PUnit.unit (fun x zz => (nsSet D x.1 x.2 >>= fun zz => pure (ForInStep.yield PUnit.unit)))) >>= fun zz => pure (front ++ [(nm, Value.ref D)])
theorem call_fnKW (am : A.depth < recursionLimit) (hF : FnK K f name qual ar b sc clos dV kV c ct) (G : Gd K mg mb g) (sub : Sub g h) (sz : g.objs.size ≤ h.objs.size)
    (hW : ∀ p ∈ W, h.get? p.1 = some p.2 ∧ g.get? p.1 = none)
    (hbind : ∀ pm, bindArgs (fnX name qual ar b sc clos dV kV .none pm none (.ref c) ct) ⟨args, ex⟩ = kwBinds front ex nm) (hn : (ex.map (·.1)).Nodup)
    (q : ∀ L h₁ t₁ D k es, Fr g L h₁ (fun y => (front ++ [(nm, Value.ref D)]).reverse.lookup y) → News g L h₁ ((D, dictOf es k) :: W) → KwE es ex → (D == sysModules) = false → (∀ p ∈ W, p.1 < D) → D < L → Sub h h₁ → h.objs.size ≤ D →
      wpAny (model prog w) (A.deeper (envX qual sc L f (.ref c) clos)) (execs b (envX qual sc L f (.ref c) clos))
        (fun fl s' => Q (match fl with | .ret v => v | _ => .none) s') (fun zz zz => False) ⟨h₁, gs, d, t₁, os⟩)
    (hloc : ∀ D, ((front ++ [(nm, Value.ref D)]).all fun x => decide (sc.names.lookup x.1 = some .local)) = true)
    (hcell : (sc.names.all fun x => !decide (x.2 = .cell)) = true := by with_unfolding_all rfl)
    (hco : sc.isCoroutine = false := by with_unfolding_all rfl) (hgen : sc.isGenerator = false := by with_unfolding_all rfl) (hk : sc.kind = .function := by with_unfolding_all rfl) :
    wpAny (model prog w) A (call (.ref f) args ex) Q E ⟨h, gs, d, t, os⟩ := by
  obtain ⟨⟨pm, ho⟩, hcd⟩ := hF
  have X := G.X.keeps sub
  refine wpAny_call (codeAny_call_function am (X _ _ ho) rfl hco hgen rfl (codeRec_of X hcd) ?_)
  rw [hbind pm]
  unfold kwBinds
  refine wpAny_bind (wpAny_alloc ?_)
  have hD : (h.push (dictOf [] 0)).get? h.objs.size = some (dictOf [] 0) := Heap.get?_push_size _ rfl
  refine wpAny_bind (fill_new ex [] (h.push (dictOf [] 0)) t [] 0 hD .nil hn fun h' t' es' n' hsb e' K' => ?_)
  refine wpAny_pure ?_
  have k1 : Sub h h' := fun b o e => (hsb.2 b (Nat.ne_of_lt (Heap.lt_size e))).trans (Heap.get?_push_of_some _ e)
  have hz : h'.objs.size = h.objs.size + 1 := by rw [hsb.1, Heap.size_push]
  refine wpAny_newFunctionEnv (fun x hx e => by have := List.all_eq_true.mp hcell x hx; rw [e] at this; exact absurd this (by decide)) (locs (hloc _)) (fun h₁ hns hsb₁ => ⟨((G.nl.keeps sub).keeps k1).fresh _ hsb₁, codeAny_func ?_⟩) hk
  have k2 : Sub h' h₁ := fun b o e => hsb₁.extBut b o (Nat.ne_of_lt (Heap.lt_size e)) (Heap.get?_push_of_some _ e)
  have kk : Sub h h₁ := fun b o e => k2 _ _ (k1 _ _ e)
  have gD : g.get? h.objs.size = none := none_of_size sz
  have hDL : (h.objs.size : Nat) < h'.objs.size := by lia
  have habove : g.objs.size ≤ h'.objs.size := by lia
  refine wpAny_mono (q h'.objs.size h₁ _ h.objs.size n' es' ⟨hns, fun b o e => kk b o (sub b o e), habove⟩ ?_ K' ?_ (fun p hp => Heap.lt_size (hW p hp).1) hDL kk (Nat.le_refl _)) (fun fl s' hl => hl) fun zz zz x => x.elim
  · intro p hp
    rcases List.mem_cons.mp hp with rfl | hp
    · exact ⟨k2 _ _ e', Nat.ne_of_lt hDL, gD⟩
    · have hlt := Heap.lt_size (hW p hp).1
      have hlt2 : (p.1 : Nat) < h'.objs.size := by rw [hz]; exact Nat.lt_succ_of_lt hlt
      exact ⟨kk _ _ (hW p hp).1, Nat.ne_of_lt hlt2, (hW p hp).2⟩
  · have := modules_low (G.nl.keeps sub)
    exact beq_eq_false_iff_ne.mpr (Nat.ne_of_gt this)
end
end Mine
end
-- B24
section
namespace Mine
noncomputable def TabOk (h : Heap) (pos : Pos) (qual : Str) (ps : Array Value) : Prop :=
  TriplesOk ps.toList ∧ ∀ c, codeAmong pos ps.toList = some c → ∃ c', c = .ref c' ∧ h.CodeRec (.ref c') qual
theorem among_snoc (p : Pos) (c : Value) (l : List Value) (h : TriplesOk l) {a b : Int} {x : Value} (e : codeAmong p (l ++ [rawInt a, rawInt b, c]) = some x) : codeAmong p l = some x ∨ x = c := by
  fun_induction TriplesOk l with
  | case1 =>
    right
    simp only [List.nil_append, codeAmong, rawInt] at e
    split at e
    · exact (Option.some.inj e).symm
    · cases e
  | case2 a' t b' u x' rest ih =>
    simp only [List.cons_append, codeAmong] at e ⊢
    set_option tactic.hygienic true in split at e
    · rename_i hc; rw [if_pos hc]; exact .inl e
    · rename_i hc; rw [if_neg hc]; exact ih h e
  | case3 l h1 h2 => exact h.elim
section
variable {prog : Program} {w : World} {M : Model} {A : Around} {E : Value → Shared → Prop} {h g : Heap} {L : Addr} {m mg mb : Str → Option Value} {news : List (Addr × Obj)} {gs : Array GenState} {d : Drawn} {t : Nat} {os : OsState} {env : Env} {K : Frag}
theorem r_lambda {params : Arguments} {body : Expr} {scope : Scope} {pos : Pos} {P c : Addr} {ps : Array Value} {clos : List (Str × Addr)} {Q : Value → Shared → Prop} (F : Fr g L h m) (G : Gd K mg mb g) (N : News g L h ((P, tabObj ps) :: news)) (hne : ∀ p ∈ news, p.1 ≠ P)
    (C : CodeHd g c P) (hT : TabOk h pos (env.qual ++ "<lambda>") ps) (hB : g.BuiltinsAt mg P)
    (q : ∀ f c' ctv h' t' ps' own, Fr g L h' m → News g L h' ((f, kla_obj "<lambda>" (env.qual ++ "<lambda>") params body scope clos ((mg "__name__").getD .none) c' ctv) :: (P, tabObj ps') :: (own ++ news)) → (∀ p ∈ (P, tabObj ps') :: (own ++ news), p.1 < f) → (∀ p ∈ own, h.objs.size ≤ p.1) →
      (∀ h'', (∀ p ∈ own, h''.get? p.1 = some p.2) → (TabOk h'' pos (env.qual ++ "<lambda>") ps → h''.CodeRec (.ref c') (env.qual ++ "<lambda>")) ∧ ∀ p, TabOk h'' p (env.qual ++ "<lambda>") ps → TabOk h'' p (env.qual ++ "<lambda>") ps') →
      h.objs.size ≤ f → Q (.ref f) ⟨h', gs, d, t', os⟩)
    (hcl : closureFor scope env = pure clos := by with_unfolding_all rfl) (hg : env.globals = mainGlobals := by with_unfolding_all rfl) (hc : env.code = .ref c := by with_unfolding_all rfl) (hdef : defaultsOf params env = ([], []) := by with_unfolding_all rfl) :
    wpAny M A (eval (.Lambda params body scope pos) env) Q E ⟨h, gs, d, t, os⟩ := by
  have hm := N _ (.head _)
  have hgs := G.gl.keeps F.keep
  obtain ⟨bm, ob, b1, b2, b3, b4, b5, b6, b7, b8⟩ := hB
  have hgP : mainGlobals ≠ P := fun q => by
    obtain ⟨o, es, ep, e, hd, _⟩ := hgs
    rw [q, hm.1] at e; cases e; cases hd
  have hb : h.BuiltinsAt mg P := ⟨bm, ob, b1, b2, b3, b4, F.keep _ _ b5, b6, b7, b8⟩
  have hLs : L < h.objs.size := F.ns.lt
  have fresh : ∀ b, L < b → g.get? b = none := fun b hb => Heap.get?_none_of_le (Nat.le_trans F.above (Nat.le_of_lt hb))
  refine kla_eval hdef ?_
  cases hf : codeAmong pos ps.toList with
  | none =>
    refine kla_makeFunction (mg := mg) (ps := ps) hcl hg hgs hc (C.keeps F.keep) hm.1 hT.1 hf hgP hb fun c' ctv h' tk hx hge hlt hrec htb => ?_
    have k : ∀ b o, b ≠ P → h.get? b = some o → (h'.push (kla_obj "<lambda>" (env.qual ++ "<lambda>") params body scope clos ((mg "__name__").getD .none) c' ctv)).get? b = some o := fun b o hb e => Heap.get?_push_of_some _ (hx b o hb e)
    have hlt2 : L < h'.objs.size := Nat.lt_trans (Nat.lt_of_lt_of_le hLs hge) hlt
    obtain ⟨c2, oc, vs, tq, e2, hoc, hdc, hvc⟩ := hrec
    cases e2
    have hcL : L < c' := Nat.lt_of_lt_of_le hLs hge
    refine q h'.objs.size c' ctv _ tk (ps ++ #[rawInt pos.line, rawInt pos.col, .ref c']) [(c', oc)] ?_ ?_ ?_ (fun p hp => by rcases List.mem_cons.mp hp with rfl | hp; exact hge; cases hp) ?_ (Nat.le_of_lt (Nat.lt_of_le_of_lt hge hlt))
    · exact ⟨(F.ns.extBut hx hm.2.1.symm).push _, fun b o e => k b o (fun q => by rw [q, hm.2.2] at e; cases e) (F.keep b o e), F.above⟩
    · intro p hp
      rcases List.mem_cons.mp hp with rfl | hp
      · exact ⟨Heap.get?_push_size _ rfl, Nat.ne_of_gt hlt2, fresh _ hlt2⟩
      rcases List.mem_cons.mp hp with rfl | hp
      · exact ⟨Heap.get?_push_of_some _ htb, hm.2⟩
      rcases List.mem_cons.mp hp with rfl | hp
      · exact ⟨Heap.get?_push_of_some _ hoc, Nat.ne_of_gt hcL, fresh _ hcL⟩
      · have n := N p (.tail _ hp)
        exact ⟨k _ _ (hne p hp) n.1, n.2⟩
    · intro p hp
      rcases List.mem_cons.mp hp with rfl | hp
      · exact Nat.lt_trans (Nat.lt_of_lt_of_le (Heap.lt_size hm.1) hge) hlt
      rcases List.mem_cons.mp hp with rfl | hp
      · exact hlt
      · exact Nat.lt_trans (Nat.lt_of_lt_of_le (Heap.lt_size (N p (.tail _ hp)).1) hge) hlt
    · intro h'' ko
      have hr : h''.CodeRec (.ref c') (env.qual ++ "<lambda>") := ⟨c', oc, vs, tq, rfl, ko _ (.head _), hdc, hvc⟩
      refine ⟨fun zz => hr, fun p hp => ⟨?_, ?_⟩⟩
      · have := TriplesOk_snoc pos.line pos.col (.ref c') ps.toList hT.1
        simpa using this
      · intro cc hcc
        have e : (ps ++ #[rawInt pos.line, rawInt pos.col, Value.ref c']).toList = ps.toList ++ [rawInt pos.line, rawInt pos.col, .ref c'] := by simp
        rw [e] at hcc
        rcases among_snoc p (.ref c') ps.toList hT.1 hcc with h1 | rfl
        · exact hp.2 _ h1
        · exact ⟨c', rfl, hr⟩
  | some cv =>
    obtain ⟨c', rfl, hrec⟩ := hT.2 _ hf
    refine kla_makeFunctionHit (mg := mg) (ps := ps) hcl hg hgs hc (C.keeps F.keep) hm.1 hT.1 hf hb fun ctv h' tk hk hsz => ?_
    have hk' : Sub h (h'.push (kla_obj "<lambda>" (env.qual ++ "<lambda>") params body scope clos ((mg "__name__").getD .none) c' ctv)) := fun b o e => Heap.get?_push_of_some _ (hk b o e)
    have hlt2 : L < h'.objs.size := Nat.lt_of_lt_of_le hLs hsz
    refine q h'.objs.size c' ctv _ tk ps [] (Fr.sub F hk') ?_ ?_ (fun p hp => nomatch hp) (fun h'' zz => ⟨fun kg => ?_, fun p hp => hp⟩) hsz
    · intro p hp
      rcases List.mem_cons.mp hp with rfl | hp
      · exact ⟨Heap.get?_push_size _ rfl, Nat.ne_of_gt hlt2, fresh _ hlt2⟩
      · exact ⟨hk' _ _ (N p hp).1, (N p hp).2⟩
    · exact fun p hp => Nat.lt_of_lt_of_le (Heap.lt_size (N p hp).1) hsz
    · obtain ⟨c2, e2, r2⟩ := kg.2 _ hf
      cases e2
      exact r2
end
section
variable {prog : Program} {w : World} {A : Around} {E : Value → Shared → Prop} {K : Frag} {g : Heap} {mg mb : Str → Option Value} {Q : Value → Shared → Prop}
  {f c' : Addr} {name qual : Str} {ar : Arguments} {body : Expr} {sc : Scope} {clos : List (Str × Addr)} {pm ctv : Value} {args : List Value} {kw binds : List (Str × Value)} {W : List (Addr × Obj)}
  {h : Heap} {gs : Array GenState} {d : Drawn} {t : Nat} {os : OsState}
theorem call_lam (am : A.depth < recursionLimit) (ho : h.get? f = some (kla_obj name qual ar body sc clos pm c' ctv)) (hcd : h.CodeRec (.ref c') qual) (G : Gd K mg mb g) (sub : Sub g h) (sz : g.objs.size ≤ h.objs.size)
    (hW : ∀ p ∈ W, h.get? p.1 = some p.2 ∧ g.get? p.1 = none)
    (hbind : bindArgs (kla_fn name qual ar body sc clos pm (.ref c') ctv) ⟨args, kw⟩ = pure binds)
    (q : ∀ L h₁ t₁, Fr g L h₁ (fun y => binds.reverse.lookup y) → News g L h₁ W → (∀ p ∈ W, p.1 < L) → Sub h h₁ → h.objs.size ≤ L →
      wpAny (model prog w) (A.deeper (envX qual sc L f (.ref c') clos)) (eval body (envX qual sc L f (.ref c') clos)) (fun v s' => Q v s') (fun zz zz => False) ⟨h₁, gs, d, t₁, os⟩)
    (hloc : (binds.all fun x => decide (sc.names.lookup x.1 = some .local)) = true := by with_unfolding_all rfl)
    (hcell : (sc.names.all fun x => !decide (x.2 = .cell)) = true := by with_unfolding_all rfl)
    (hco : sc.isCoroutine = false := by with_unfolding_all rfl) (hgen : sc.isGenerator = false := by with_unfolding_all rfl) (hk : sc.kind = .function := by with_unfolding_all rfl) :
    wpAny (model prog w) A (call (.ref f) args kw) Q E ⟨h, gs, d, t, os⟩ := by
  refine wpAny_call (kla_callFunE am ho rfl hco hgen rfl hcd ?_)
  rw [hbind]
  refine wpAny_pure (wpAny_newFunctionEnv (fun x hx e => by have := List.all_eq_true.mp hcell x hx; rw [e] at this; exact absurd this (by decide)) (locs hloc) (fun h₁ hns hsb => ⟨(G.nl.keeps sub).fresh _ hsb, ?_⟩) hk)
  show codeAny _ _ (.expr body (envX qual sc h.objs.size f (.ref c') clos)) _ _
  have hk₁ : Sub h h₁ := fun b o e => hsb.extBut b o (Nat.ne_of_lt (Heap.lt_size e)) (Heap.get?_push_of_some _ e)
  exact kla_codeExpr (wpAny_mono (q h.objs.size h₁ _ ⟨hns, fun b o e => hk₁ b o (sub b o e), sz⟩ (fun p hp => ⟨hk₁ _ _ (hW p hp).1, Nat.ne_of_lt (Heap.lt_size (hW p hp).1), (hW p hp).2⟩) (fun p hp => Heap.lt_size (hW p hp).1) hk₁ (Nat.le_refl _)) (fun v s' hl => hl) fun zz zz x => x.elim)
end
end Mine
end
-- B25
section
namespace Mine
section
variable {prog : Program} {w : World} {M : Model} {A : Around} {E : Value → Shared → Prop} {h g : Heap} {L : Addr} {m : Str → Option Value} {news : List (Addr × Obj)} {gs : Array GenState} {d : Drawn} {t : Nat} {os : OsState} {env : Env} {s : Shared}
theorem r_swap2 {tp : Addr} {v1 v2 : Value} {a b : Str} {Q : Unit → Shared → Prop} (hh : A.handled = none) (F : Fr g L h m) (N : News g L h news) (ht : h.get? tp = some (tupO [v1, v2]))
    (q : ∀ h', Fr g L h' m → News g L h' news → Sub h h' → wpAny (model prog w) A (bindName env b v2) (fun zz s => wpAny (model prog w) A (bindName env a v1) (fun zz s => Q () s) E s) E ⟨h', gs, d, t, os⟩) :
    wpAny (model prog w) A (unpackItems (.ref tp) 2 none) (fun items s => wpAny (model prog w) A (assignInOrder ([a, b].reverse.map fun n => bindName env n) items.reverse) Q E s) E ⟨h, gs, d, t, os⟩ := by
  refine wpAny_unpackItems_tuple (items := [v1, v2].toArray) hh ⟨_, ht, rfl, _, rfl⟩ fun h' hx => ?_
  have k : Sub h h' := fun b o e => hx b o (Nat.ne_of_lt (Heap.lt_size e)) e
  refine wpAny_assignInOrder_more (wpAny_mono (q h' (Fr.sub F k) (News.keep N k) k) (fun zz s hs => wpAny_assignInOrder_more (wpAny_mono hs (fun zz s z => wpAny_pure z) fun zz zz x => x)) fun zz zz x => x)
theorem x_pick {c : Bool} {e1 e2 : Expr} {v1 v2 : Value} {Q : Value → Shared → Prop} (h1 : ∀ Q : Value → Shared → Prop, Q v1 s → wpAny M A (eval e1 env) Q E s) (h2 : ∀ Q : Value → Shared → Prop, Q v2 s → wpAny M A (eval e2 env) Q E s)
    (q : Q (if c = true then v1 else v2) s) : if c = true then wpAny M A (eval e1 env) Q E s else wpAny M A (eval e2 env) Q E s := by
  cases c
  · exact h2 Q q
  · exact h1 Q q
theorem x_AssTup {elts k tpos value pos} {Q : Flow → Shared → Prop}
    (h : wpAny M A (eval value env) (fun v s₁ => wpAny M A (assign (.Tuple elts k tpos) env v) (fun zz => Q .next) E s₁) E s)
    (hs : swapsWithSole [.Tuple elts k tpos] value pos.line env = pure false := by with_unfolding_all rfl)
    (hw : swappedStores [.Tuple elts k tpos] value env = pure none := by with_unfolding_all rfl) :
    wpAny M A (exec (.Assign [.Tuple elts k tpos] value pos) env) Q E s := Assign_Tuple h hs hw
end
end Mine
namespace Mine
theorem TabOk.keeps {h h' : Heap} {pos : Pos} {qual : Str} {ps : Array Value} (x : TabOk h pos qual ps) (k : Sub h h') : TabOk h' pos qual ps :=
  ⟨x.1, fun c hc => let ⟨c', e, r⟩ := x.2 c hc; ⟨c', e, r.keeps k⟩⟩
section
variable {prog : Program} {w : World} {A : Around} {E : Value → Shared → Prop} {h g : Heap} {L : Addr} {m : Str → Option Value} {news : List (Addr × Obj)} {gs : Array GenState} {d : Drawn} {t : Nat} {os : OsState} {env : Env} {M : Model}
theorem r_listRange {r : Addr} {n : Nat} {t1 t2 t3 : Tok} {Q : Value → Shared → Prop} (hh : A.handled = none) (F : Fr g L h m) (N : News g L h news)
    (hr : h.get? r = some { cls := .type "range", dict := none, data := .fields #[.int 0 t1, .int n t2, .int 1 t3], slots := #[] }) (hn : n ≤ 1000)
    (q : ∀ l vs c h' t', Fr g L h' m → News g L h' ((l, listOf (List.toArray vs) c) :: news) → (∀ p ∈ news, p.1 < l) → Sub h h' → h.objs.size ≤ l → vs.length = n → (∀ i, i < n → ∃ u, vs[i]? = some (.int i u)) → Q (.ref l) ⟨h', gs, d, t', os⟩) :
    wpAny (model prog w) A (call (.type "list") [.ref r] []) Q E ⟨h, gs, d, t, os⟩ := by
  refine call_list_range (n := n) hh (a := 0) (b := n) (c := 1) hr (small_one (by lia) (by lia) (by lia) (by lia)) ?_ (by lia) fun h' tk acc' c' hk hS' hacc => ?_
  · rw [rangeSize_one]; split <;> lia
  have hl : (h.objs.size : Nat) < h'.objs.size := Heap.lt_size hS'
  have hLs := F.ns.lt
  refine q h.objs.size acc'.toList c' h' tk (Fr.sub F hk) ?_ (fun p hp => Heap.lt_size (N p hp).1) hk (Nat.le_refl _) (by simpa using hacc.1) ?_
  · intro p hp
    rcases List.mem_cons.mp hp with rfl | hp
    · exact ⟨by simpa using hS', Nat.ne_of_gt hLs, none_of_size (Fr.szle F)⟩
    · exact ⟨hk _ _ (N p hp).1, (N p hp).2⟩
  · intro i hi
    have hi' : i < acc'.size := by rw [hacc.1]; exact hi
    obtain ⟨u, hu⟩ := hacc.2 i acc'[i] (Array.getElem?_eq_getElem hi')
    refine ⟨u, ?_⟩
    have : acc'.toList[i]? = some acc'[i] := by simp [hi']
    rw [this, hu]
    simp
theorem x_AssSw {elts : List Expr} {k : Nat} {tpos : Pos} {value : Expr} {pos : Pos} {a b : Str} {s : Shared} {Q : Flow → Shared → Prop}
    (h1 : wpAny M A (eval value env) (fun v s₁ => wpAny M A (unpackItems v 2 none) (fun items s => wpAny M A (assignInOrder ([a, b].reverse.map fun n => bindName env n) items.reverse) (fun zz => Q .next) E s) E s₁) E s)
    (hs : swapsWithSole [.Tuple elts k tpos] value pos.line env = pure false := by with_unfolding_all rfl)
    (hw : swappedStores [.Tuple elts k tpos] value env = pure (some [a, b]) := by with_unfolding_all rfl) :
    wpAny M A (exec (.Assign [.Tuple elts k tpos] value pos) env) Q E s :=
  Assign_Tuple_swapped (names := [a, b]) h1 hs hw
end
end Mine
end
-- B26
section
namespace Mine
noncomputable def hides : Heap → List Addr → Heap
  | h, [] => h
  | h, a :: r => hides (h.hide a) r
theorem hides_out : ∀ {l : List Addr} {h : Heap} {b : Addr}, b ∉ l → (hides h l).get? b = h.get? b
  | [], _, _, _ => rfl
  | c :: r, h, b, hn => (hides_out (l := r) (h := h.hide c) (fun q => hn (.tail _ q))).trans (Heap.hide_ne h (fun q => hn (q ▸ .head _)))
theorem hides_in {l : List Addr} {b : Addr} : ∀ {h : Heap}, b ∈ l → (hides h l).get? b = none := by
  induction l with
  | nil => exact fun hm => absurd hm List.not_mem_nil
  | cons a r ih =>
    intro h hm
    by_cases hr : b ∈ r
    · exact ih (h := h.hide a) hr
    · have := (List.mem_cons.mp hm).resolve_right hr
      subst this
      exact (hides_out (l := r) (h := h.hide b) hr).trans (Heap.hide_self h b)
theorem hides_size : ∀ {l : List Addr} {h : Heap}, (hides h l).objs.size = h.objs.size
  | [], _ => rfl
  | c :: r, h => (hides_size (l := r) (h := h.hide c)).trans (Heap.hide_size h c)
theorem hidesSub {h : Heap} {l : List Addr} : Sub (hides h l) h := fun b o e => by
  by_cases hb : b ∈ l
  · rw [hides_in hb] at e; cases e
  · rwa [hides_out hb] at e
noncomputable def Heap.Ext' (l : List Addr) (h h' : Heap) : Prop := ∀ b o, b ∉ l → h.get? b = some o → h'.get? b = some o
theorem of_hides {h h' : Heap} {l : List Addr} (k : Sub (hides h l) h') : Heap.Ext' l h h' := fun b o hb e => k b o ((hides_out hb).trans e)
theorem Fr.exts {g h h' : Heap} {L : Addr} {m : Str → Option Value} {l : List Addr} (F : Fr g L h m) (hL : L ∉ l) (hg : ∀ a ∈ l, g.get? a = none) (hs : Heap.Ext' l h h') : Fr g L h' m :=
  ⟨F.ns.at' fun o e => hs L o hL e, fun b o e => hs b o (fun q => by rw [hg b q] at e; cases e) (F.keep b o e), F.above⟩
theorem News.exts {g h h' : Heap} {L : Addr} {news : List (Addr × Obj)} {l : List Addr} (N : News g L h news) (hne : ∀ p ∈ news, p.1 ∉ l) (hs : Heap.Ext' l h h') : News g L h' news :=
  fun p hp => ⟨hs _ _ (hne p hp) (N p hp).1, (N p hp).2⟩
theorem subHides {g h : Heap} {l : List Addr} (k : Sub g h) (hg : ∀ a ∈ l, g.get? a = none) : Sub g (hides h l) := fun b o e => (hides_out (fun q => by rw [hg b q] at e; cases e)).trans (k b o e)
theorem hides_get {h : Heap} {l : List Addr} {b : Addr} {o : Obj} (e : h.get? b = some o) (hb : b ∉ l) : (hides h l).get? b = some o := (hides_out hb).trans e
end Mine
end
-- B28
section
namespace Mine
noncomputable abbrev cellO (v : Option Value) : Obj := { cls := .type "cell", data := .cell v }
noncomputable abbrev Ux := Option (Str × Pos)
noncomputable def uxUse (env : Env) : Ux → Option (Value → Sem Unit)
  | none => none
  | some (x, p) => some (assign (.Name x p) env)
noncomputable def uxMap (ux : Ux) (acc : Addr) (m : Str → Option Value) : Str → Option Value := match ux with
  | none => m
  | some (x, _) => fun y => if y = x then some (.ref acc) else m y
noncomputable def uxVal (ux : Ux) (acc : Addr) : Value := match ux with
  | none => .ref acc
  | some _ => .none
noncomputable def UxOk (env : Env) (L : Addr) (ux : Ux) : Prop := ∀ x p, ux = some (x, p) → env.kindOf x = some .local ∧ env.locals = L ∧ env.scope.kind = .function
noncomputable def CompGoU (prog : Program) (w : World) (A : Around) (env : Env) (elt : Expr) (gens : List Comprehension) (sc : Scope) (pos : Pos) (cl : List (Str × Addr)) (ux : Ux) (Q : Value → Shared → Prop) (E : Value → Shared → Prop) (it : Value) (s : Shared) : Prop :=
  wpAny (model prog w) A (newList []) (fun acc s₃ => wpAny (model prog w) A (newFunctionEnv sc env.globals cl [] env.qual none .none (some env)) (fun cenv s₄ =>
    codeAny (model prog w) A (.compStart (.ListComp elt gens sc pos) 0 it acc { cenv with scope := relabel sc env }) (compPost (model prog w) A E (uxUse env ux) Q acc cenv.locals) s₄) E s₃) E s
section
variable {prog : Program} {w : World} {A : Around} {E : Value → Shared → Prop} {d : Drawn} {os : OsState} {g : Heap} {L I : Addr} {env : Env} {Q : Value → Shared → Prop}
  {elt : Expr} {gens : List Comprehension} {sc : Scope} {pos : Pos} {cl : List (Str × Addr)} {ux : Ux}
theorem x_AssLC {s : Shared} {target iter : Expr} {ifs : List Expr} {rest : List Comprehension} {y : Str} {py spos : Pos} {Q : Flow → Shared → Prop}
    (h : wpAny (model prog w) A (eval iter env) (fun x s₁ => wpAny (model prog w) A (pyIter x) (fun it s₂ => CompGoU prog w A env elt (⟨target, iter, ifs, 0⟩ :: rest) sc pos cl (some (y, py)) (fun zz s' => Q .next s') E it s₂) E s₁) E s)
    (hsw : swapsWith (.ListComp elt (⟨target, iter, ifs, 0⟩ :: rest) sc pos) (some (.Name y py)) spos.line env = pure true := by with_unfolding_all rfl)
    (hclos : closureFor sc env = pure cl := by with_unfolding_all rfl) (hkind : sc.kind = .function := by with_unfolding_all rfl)
    (hnames : (sc.names.all fun x => !decide (x.2 = .local) || decide (sc.names.lookup x.1 = some .local)) = true := by with_unfolding_all rfl)
    (hs : ∀ x, foldedSetIterable iter env x = pure x := by intro _; with_unfolding_all rfl) :
    wpAny (model prog w) A (exec (.Assign [.Name y py] (.ListComp elt (⟨target, iter, ifs, 0⟩ :: rest) sc pos) spos) env) Q E s := by
  rw [exec_Assign_Name_used _ _ _ _ hsw]
  refine wpAny_bind (wpAny_standAt (wpAny_bind ?_))
  show wpAny _ A (do let _ ← comprehension (.ListComp elt (⟨target, iter, ifs, 0⟩ :: rest) sc pos) sc env _ (newList []) false (eval iter env) (some (assign (.Name y py) env))) _ _ s
  refine wpAny_bind (wpAny_mono (wpAny_comprehension_free (use := some (assign (.Name y py) env)) (Q := fun zz s' => Q .next s') (cl := cl) rfl hs hclos hkind (fun x hx e => ?_)
    h) (fun zz s' hq => wpAny_pure (wpAny_pure hq)) fun zz zz e => e)
  have := List.all_eq_true.mp hnames x hx
  rw [e] at this
  simpa using this
theorem comp_core {cenv : Env} (hux : UxOk env L ux) {P : List Value → List (Addr × Obj) → Array GenState → Prop} {h h₂ : Heap} {gs : Array GenState} {t' : Nat} {m : Str → Option Value} {mu news cs : List (Addr × Obj)} {oI : Obj} {acc D : Addr}
    (F : Fr g L h m) (N : News g L h ((I, oI) :: (mu ++ news))) (hne : ∀ p ∈ mu ++ news, p.1 ≠ I) (hap : ∀ p ∈ mu, ∀ p' ∈ news, p.1 ≠ p'.1)
    (hns : h₂.Ns D (fun zz => none)) (k2 : Sub h h₂) (hacc : acc = h.objs.size) (hD : D = h.objs.size + 1) (eacc : h₂.get? acc = some (listOf ([] : List Value).toArray 0)) (hcs : ∀ p ∈ cs, D < p.1 ∧ h₂.get? p.1 = some p.2)
    (inner : ∀ g', Sub g g' → (∀ p ∈ news, g'.get? p.1 = some p.2) → g'.Ns L m → g'.objs.size = h.objs.size → Fr g' D h₂ (fun zz => none) → News g' D h₂ ((I, oI) :: (acc, listOf ([] : List Value).toArray 0) :: (cs ++ mu)) → (∀ p ∈ (acc, listOf ([] : List Value).toArray 0) :: (cs ++ mu), p.1 ≠ I) → (∀ p ∈ cs ++ mu, p.1 ≠ acc) →
      codeAny (model prog w) A (.compStart (.ListComp elt gens sc pos) 0 (.ref I) (.ref acc) cenv) (fun r s' => r = .ok .next ∧ CompEnd g' D acc d os P s') ⟨h₂, gs, d, t', os⟩)
    (q : ∀ ys c news' h'' gs' t'', Fr g L h'' (uxMap ux acc m) → News g L h'' ((acc, listOf (List.toArray ys) c) :: (news' ++ news)) → (∀ p ∈ news' ++ news, p.1 ≠ acc) → (∀ p ∈ news', ∀ p' ∈ news, p.1 ≠ p'.1) → P ys news' gs' → Q (uxVal ux acc) ⟨h'', gs', d, t'', os⟩) :
    codeAny (model prog w) A (.compStart (.ListComp elt gens sc pos) 0 (.ref I) (.ref acc) cenv) (compPost (model prog w) A E (uxUse env ux) Q (.ref acc) D) ⟨h₂, gs, d, t', os⟩ := by
  have hIlt : (I : Nat) < h.objs.size := Heap.lt_size (N _ (.head _)).1
  have hmut : ∀ p ∈ mu, p.1 < h.objs.size := fun p hp => Heap.lt_size (N p (.tail _ (List.mem_append_left _ hp))).1
  have gn0 : ∀ a ∈ I :: mu.map (·.1), g.get? a = none := by
    intro a ha
    rcases List.mem_cons.mp ha with rfl | ha
    · exact (N _ (.head _)).2.2
    · obtain ⟨p, hp, rfl⟩ := List.mem_map.mp ha
      exact (N p (.tail _ (List.mem_append_left _ hp))).2.2
  have sg : Sub g (hides h (I :: mu.map (·.1))) := subHides F.keep gn0
  have hLI : L ∉ I :: mu.map (·.1) := by
    intro ha
    rcases List.mem_cons.mp ha with e | ha
    · exact (N _ (.head _)).2.1 e.symm
    · obtain ⟨p, hp, e⟩ := List.mem_map.mp ha
      exact (N p (.tail _ (List.mem_append_left _ hp))).2.1 e
  have nsL : (hides h (I :: mu.map (·.1))).Ns L m := F.ns.at' fun o e => hides_get e hLI
  have nn : ∀ p ∈ news, (hides h (I :: mu.map (·.1))).get? p.1 = some p.2 := fun p hp => hides_get (N p (.tail _ (List.mem_append_right _ hp))).1 (by
    intro ha
    rcases List.mem_cons.mp ha with e | ha
    · exact hne p (List.mem_append_right _ hp) e
    · obtain ⟨p', hp', e⟩ := List.mem_map.mp ha
      exact hap p' hp' p hp e)
  have fr : ∀ a, h.objs.size ≤ a → (hides h (I :: mu.map (·.1))).get? a = none := fun a ha => none_of_size (by rw [hides_size]; exact ha)
  have hinn : ∀ a ∈ I :: mu.map (·.1), (hides h (I :: mu.map (·.1))).get? a = none := fun a ha => hides_in ha
  have hDn : ∀ a, a < h.objs.size → a ≠ D := fun a ha => by rw [hD]; exact Nat.ne_of_lt (Nat.lt_succ_of_lt ha)
  have F2 : Fr (hides h (I :: mu.map (·.1))) D h₂ (fun zz => none) := ⟨hns, fun b o e => k2 _ _ (hidesSub b o e), by rw [hides_size, hD]; exact Nat.le_succ _⟩
  have hcs2 : ∀ p ∈ cs, h.objs.size < p.1 := fun p hp => Nat.lt_of_le_of_lt (by rw [hD]; exact Nat.le_succ _) (hcs p hp).1
  have N2 : News (hides h (I :: mu.map (·.1))) D h₂ ((I, oI) :: (acc, listOf ([] : List Value).toArray 0) :: (cs ++ mu)) := by
    intro p hp
    rcases List.mem_cons.mp hp with rfl | hp
    · exact ⟨k2 _ _ (N _ (.head _)).1, hDn _ hIlt, hinn _ (.head _)⟩
    rcases List.mem_cons.mp hp with rfl | hp
    · exact ⟨eacc, by show acc ≠ D; rw [hacc, hD]; exact Nat.ne_of_lt (Nat.lt_succ_self _), fr _ (by rw [hacc]; exact Nat.le_refl _)⟩
    rcases List.mem_append.mp hp with hp | hp
    · exact ⟨(hcs p hp).2, Nat.ne_of_gt (hcs p hp).1, fr _ (Nat.le_of_lt (hcs2 p hp))⟩
    · exact ⟨k2 _ _ (N p (.tail _ (List.mem_append_left _ hp))).1, hDn _ (hmut p hp), hinn _ (.tail _ (List.mem_map.mpr ⟨p, hp, rfl⟩))⟩
  have hai : acc ≠ I := by rw [hacc]; exact Nat.ne_of_gt hIlt
  refine codeAny_mono (inner (hides h (I :: mu.map (·.1))) sg nn nsL hides_size F2 N2 ?_ ?_) ?_
  · intro p hp
    rcases List.mem_cons.mp hp with rfl | hp
    · exact hai
    rcases List.mem_append.mp hp with hp | hp
    · exact Nat.ne_of_gt (Nat.lt_trans hIlt (hcs2 p hp))
    · exact hne p (List.mem_append_left _ hp)
  · intro p hp
    rw [hacc]
    rcases List.mem_append.mp hp with hp | hp
    · exact Nat.ne_of_gt (hcs2 p hp)
    · exact Nat.ne_of_lt (hmut p hp)
  rintro r s' ⟨rfl, ⟨m', ys, c, news', h'', gs', t'', F', N', hna, hP⟩⟩
  have nD : ∀ b o, (hides h (I :: mu.map (·.1))).get? b = some o → b ≠ D := fun b o e => by have := Heap.lt_size e; rw [hides_size] at this; exact hDn _ this
  have hLD : L ≠ D := by obtain ⟨oL, es, ep, hL, r⟩ := nsL; exact nD _ _ hL
  have gn : ∀ p ∈ (acc, listOf (List.toArray ys) c) :: news', p.1 ≠ L ∧ g.get? p.1 = none := fun p hp => by
    have hn := (N' p hp).2.2
    refine ⟨fun q => ?_, ?_⟩
    · obtain ⟨oL, es, ep, hL, r⟩ := nsL
      rw [q, hL] at hn; cases hn
    · cases z : g.get? p.1 with
      | none => rfl
      | some o => rw [sg _ _ z] at hn; cases hn
  have ap : ∀ p ∈ (acc, listOf (List.toArray ys) c) :: news', ∀ p' ∈ news, p.1 ≠ p'.1 := fun p hp p' hp' q => by
    have hn := (N' p hp).2.2
    rw [q, nn p' hp'] at hn; cases hn
  have gL : g.get? L = none := none_of_size F.above
  have gD : g.get? D = none := none_of_size (by rw [hD]; exact Nat.le_trans (Fr.szle F) (Nat.le_succ _))
  have Nall : ∀ (h3 : Heap), (∀ b o, b ≠ L → b ≠ D → h''.get? b = some o → h3.get? b = some o) → News g L h3 ((acc, listOf (List.toArray ys) c) :: (news' ++ news)) := by
    intro h3 k p hp
    rcases List.mem_cons.mp hp with rfl | hp
    · exact ⟨k _ _ (gn _ (.head _)).1 (N' _ (.head _)).2.1 (N' _ (.head _)).1, gn _ (.head _)⟩
    rcases List.mem_append.mp hp with hp | hp
    · exact ⟨k _ _ (gn _ (.tail _ hp)).1 (N' _ (.tail _ hp)).2.1 (N' _ (.tail _ hp)).1, gn _ (.tail _ hp)⟩
    · have z := (N p (.tail _ (List.mem_append_right _ hp))).2
      exact ⟨k _ _ z.1 (nD _ _ (nn p hp)) (F'.keep _ _ (nn p hp)), z⟩
  have hne2 : ∀ p ∈ news' ++ news, p.1 ≠ acc := by
    intro p hp
    rcases List.mem_append.mp hp with hp | hp
    · exact hna p hp
    · exact Ne.symm (ap _ (.head _) p hp)
  cases ux with
  | none =>
    refine ⟨m', F'.ns, fun h3 hs3 => ?_⟩
    have k : ∀ b o, b ≠ L → b ≠ D → h''.get? b = some o → h3.get? b = some o := fun b o zz hb e => (hs3.2 b hb).trans e
    refine q ys c news' h3 gs' t'' ⟨(nsL.keeps F'.keep).sameBut hs3 hLD, fun b o e => ?_, F.above⟩ (Nall h3 k) hne2 (fun p hp p' hp' => ap p (.tail _ hp) p' hp') hP
    exact k b o (fun z => by rw [z, gL] at e; cases e) (fun z => by rw [z, gD] at e; cases e) (F'.keep _ _ (sg b o e))
  | some xp =>
    obtain ⟨x, p⟩ := xp
    obtain ⟨hx, hlc, hsk⟩ := hux x p rfl
    show wpAny _ A (assign (.Name x p) env (.ref acc)) _ _ _
    refine wpAny_assign_Name (wpAny_storeName_local hx (hlc ▸ nsL.keeps F'.keep) (fun h4 hn4 hs4 => ?_) (by rw [hsk]; rfl))
    rw [hlc] at hn4 hs4
    refine ⟨m', F'.ns.sameBut hs4 (Ne.symm hLD), fun h3 hs3 => ?_⟩
    have k : ∀ b o, b ≠ L → b ≠ D → h''.get? b = some o → h3.get? b = some o := fun b o hb hb2 e => (hs3.2 b hb2).trans ((hs4.2 b hb).trans e)
    refine q ys c news' h3 gs' _ ⟨hn4.sameBut hs3 hLD, fun b o e => ?_, F.above⟩ (Nall h3 k) hne2 (fun p hp p' hp' => ap p (.tail _ hp) p' hp') hP
    exact k b o (fun z => by rw [z, gL] at e; cases e) (fun z => by rw [z, gD] at e; cases e) (F'.keep _ _ (sg b o e))
theorem envOf1 {M : Model} {s : Shared} {nm : Str} {Q : Env → Shared → Prop} (hcf : ∀ a, cellsFrom a sc.names cl = (nm, a) :: cl) (hpc : ∀ h, pushCells h sc.names = h.push (cellO none))
    (q : Q { scope := sc, locals := s.heap.objs.size, globals := env.globals, cells := (nm, s.heap.objs.size + 1) :: cl, qual := env.qual, func := none, code := env.code, frame := env.frame, builtins := env.builtins }
      { s with heap := (s.heap.push { cls := .type "dict", data := .dict #[] }).push (cellO none) }) :
    wpAny M A (newFunctionEnv sc env.globals cl [] env.qual none .none (some env)) Q E s := by
  simp only [newFunctionEnv, Option.isSome_some, if_true]
  refine wpAny_bind (wpAny_alloc ?_)
  refine wpAny_bind (wpAny_layCells _ (fun name kind cells => by cases hkc : kind == NameKind.cell <;> simp [hkc]) _ _ _ _ ?_)
  rw [List.forIn_nil]
  refine wpAny_bind (wpAny_pure (wpAny_pure ?_))
  dsimp only
  rw [Heap.size_push, hcf, hpc]
  exact q
end
section
variable {prog : Program} {w : World} {A : Around} {E : Value → Shared → Prop} {d : Drawn} {os : OsState} {g : Heap} {L I : Addr} {env : Env} {Q : Value → Shared → Prop}
  {elt : Expr} {rest : List Comprehension} {sc : Scope} {pos : Pos} {cl : List (Str × Addr)} {target iter : Expr} {ifs : List Expr} {ux : Ux}
theorem r_compForM {src : Heap → Prop} {n : Nat} {item : Nat → Value → Prop} {isI : Nat → Obj → Prop} (IT : Iter prog w src n item isI) (hh : A.handled = none)
    {h : Heap} {gs : Array GenState} {t : Nat} {m : Str → Option Value} {mu news : List (Addr × Obj)} {oI : Obj}
    (F : Fr g L h m) (N : News g L h ((I, oI) :: (mu ++ news))) (hne : ∀ p ∈ mu ++ news, p.1 ≠ I) (hap : ∀ p ∈ mu, ∀ p' ∈ news, p.1 ≠ p'.1) (i0 : isI 0 oI)
    (J : Nat → (Str → Option Value) → List Value → List (Addr × Obj) → Array GenState → Prop) (j0 : J 0 (fun zz => none) [] mu gs)
    (inner : ∀ g' acc D, Sub g g' → (∀ p ∈ news, g'.get? p.1 = some p.2) → g'.Ns L m → g'.objs.size = h.objs.size →
      (∀ i m ys news gs h', J i m ys news gs → Sub g' h' → News g' D h' news → src h') ∧
      (∀ i m ys c news gs h t o v, i < n → J i m ys news gs → item i v → isI (i + 1) o → Fr g' D h m → News g' D h ((I, o) :: (acc, listOf (List.toArray ys) c) :: news) → (∀ p ∈ (acc, listOf (List.toArray ys) c) :: news, p.1 ≠ I) → (∀ p ∈ news, p.1 ≠ acc) →
        wpAny (model prog w) A (letOwnedTupleGo target (.ref I) v) (fun zz s₁ => wpAny (model prog w) A (assign target (compEnvC sc cl D env) v) (fun zz s₂ => wpAny (model prog w) A (tests ifs (compEnvC sc cl D env)) (fun ok s₃ =>
          if ok = true then wpAny (model prog w) A (within elt (⟨target, iter, ifs, 0⟩ :: rest) sc pos 0 (.ref acc) (compEnvC sc cl D env)) (fun zz s₄ => CompNext g' D I acc d os o (J (i + 1)) s₄) (fun zz zz => False) s₃
          else CompNext g' D I acc d os o (J (i + 1)) s₃) (fun zz zz => False) s₂) (fun zz zz => False) s₁) (fun zz zz => False) ⟨h, gs, d, t, os⟩))
    (q : ∀ acc ys c news' h'' gs' t'' m', J n m' ys news' gs' → Fr g L h'' (uxMap ux acc m) → News g L h'' ((acc, listOf (List.toArray ys) c) :: (news' ++ news)) → (∀ p ∈ news' ++ news, p.1 ≠ acc) → (∀ p ∈ news', ∀ p' ∈ news, p.1 ≠ p'.1) → h.objs.size ≤ acc → Q (uxVal ux acc) ⟨h'', gs', d, t'', os⟩)
    (hux : UxOk env L ux := by (intro _ _ e; first | (cases e; done) | (cases e; exact ⟨by with_unfolding_all rfl, by with_unfolding_all rfl, by with_unfolding_all rfl⟩)))
    (hcell : (sc.names.all fun x => !decide (x.2 = .cell)) = true := by with_unfolding_all rfl) (hkind : sc.kind = .function := by with_unfolding_all rfl) :
    CompGoU prog w A env elt (⟨target, iter, ifs, 0⟩ :: rest) sc pos cl ux Q E (.ref I) ⟨h, gs, d, t, os⟩ := by
  refine wpAny_newObj_type ?_ (Nat.zero_le _)
  refine wpAny_newFunctionEnv (fun x hx e => by have := List.all_eq_true.mp hcell x hx; rw [e] at this; exact absurd this (by decide)) (by intro y hy; cases hy) (fun h₂ hns hsb => ?_) hkind
  dsimp only at hns hsb ⊢
  generalize hH : h.push { cls := .type "list", dict := none, data := .seq ([] : List Value).toArray } = h₁ at hns hsb ⊢
  have hz : h₁.objs.size = h.objs.size + 1 := by rw [← hH, Heap.size_push]
  have k01 : Sub h h₁ := fun b o e => hH ▸ Heap.get?_push_of_some _ e
  have k12 : Sub h₁ h₂ := fun b o e => hsb.extBut b o (Nat.ne_of_lt (Heap.lt_size e)) (Heap.get?_push_of_some _ e)
  have eacc : h₁.get? h.objs.size = some (listOf ([] : List Value).toArray 0) := by rw [← hH]; exact Heap.get?_push_size _ rfl
  refine comp_core hux (P := fun ys news' gs' => ∃ m', J n m' ys news' gs') (cs := []) (D := h₁.objs.size) (acc := h.objs.size) F N hne hap hns (fun b o e => k12 _ _ (k01 _ _ e)) rfl hz (k12 _ _ eacc) (fun zz hp => nomatch hp) ?_ ?_
  · intro g' sg kN nsL hsz F' N' hai hna
    obtain ⟨hsrc, turn⟩ := inner g' h.objs.size h₁.objs.size sg kN nsL hsz
    refine comp_loop IT hh rfl J (fun i m ys news gs h' j F N => hsrc i m ys news gs h' j F.keep N) turn ?_ j0 F' N' hai hna i0
    intro m ys c news gs h t j F N hna
    exact ⟨rfl, .mk m ys c news h gs t F N hna ⟨m, j⟩⟩
  · intro ys c news' h'' gs' t'' F' N' h1 h2 ⟨m', hP⟩
    exact q _ ys c news' h'' gs' t'' m' hP F' N' h1 h2 (Nat.le_refl _)
theorem r_compFor1 {src : Heap → Prop} {n : Nat} {item : Nat → Value → Prop} {isI : Nat → Obj → Prop} (IT : Iter prog w src n item isI) (hh : A.handled = none) {nm : Str}
    {h : Heap} {gs : Array GenState} {t : Nat} {m : Str → Option Value} {mu news : List (Addr × Obj)} {oI : Obj}
    (F : Fr g L h m) (N : News g L h ((I, oI) :: (mu ++ news))) (hne : ∀ p ∈ mu ++ news, p.1 ≠ I) (hap : ∀ p ∈ mu, ∀ p' ∈ news, p.1 ≠ p'.1) (i0 : isI 0 oI)
    (J : Addr → Nat → (Str → Option Value) → List Value → List (Addr × Obj) → Array GenState → Prop) (j0 : ∀ c, h.objs.size ≤ c → J c 0 (fun zz => none) [] ((c, cellO none) :: mu) gs)
    (inner : ∀ g' acc D c₀, Sub g g' → (∀ p ∈ news, g'.get? p.1 = some p.2) → g'.Ns L m → g'.objs.size = h.objs.size → D < c₀ →
      (∀ i m ys news gs h', J c₀ i m ys news gs → Sub g' h' → News g' D h' news → src h') ∧
      (∀ i m ys c news gs h t o v, i < n → J c₀ i m ys news gs → item i v → isI (i + 1) o → Fr g' D h m → News g' D h ((I, o) :: (acc, listOf (List.toArray ys) c) :: news) → (∀ p ∈ (acc, listOf (List.toArray ys) c) :: news, p.1 ≠ I) → (∀ p ∈ news, p.1 ≠ acc) →
        wpAny (model prog w) A (letOwnedTupleGo target (.ref I) v) (fun zz s₁ => wpAny (model prog w) A (assign target (compEnvC sc ((nm, c₀) :: cl) D env) v) (fun zz s₂ => wpAny (model prog w) A (tests ifs (compEnvC sc ((nm, c₀) :: cl) D env)) (fun ok s₃ =>
          if ok = true then wpAny (model prog w) A (within elt (⟨target, iter, ifs, 0⟩ :: rest) sc pos 0 (.ref acc) (compEnvC sc ((nm, c₀) :: cl) D env)) (fun zz s₄ => CompNext g' D I acc d os o (J c₀ (i + 1)) s₄) (fun zz zz => False) s₃
          else CompNext g' D I acc d os o (J c₀ (i + 1)) s₃) (fun zz zz => False) s₂) (fun zz zz => False) s₁) (fun zz zz => False) ⟨h, gs, d, t, os⟩))
    (q : ∀ acc ys c c₀ news' h'' gs' t'' m', J c₀ n m' ys news' gs' → Fr g L h'' (uxMap ux acc m) → News g L h'' ((acc, listOf (List.toArray ys) c) :: (news' ++ news)) → (∀ p ∈ news' ++ news, p.1 ≠ acc) → (∀ p ∈ news', ∀ p' ∈ news, p.1 ≠ p'.1) → h.objs.size ≤ acc → Q (uxVal ux acc) ⟨h'', gs', d, t'', os⟩)
    (hux : UxOk env L ux := by (intro _ _ e; first | (cases e; done) | (cases e; exact ⟨by with_unfolding_all rfl, by with_unfolding_all rfl, by with_unfolding_all rfl⟩)))
    (hcf : ∀ a, cellsFrom a sc.names cl = (nm, a) :: cl := by intro _; with_unfolding_all rfl) (hpc : ∀ h, pushCells h sc.names = h.push (cellO none) := by intro _; with_unfolding_all rfl) :
    CompGoU prog w A env elt (⟨target, iter, ifs, 0⟩ :: rest) sc pos cl ux Q E (.ref I) ⟨h, gs, d, t, os⟩ := by
  refine wpAny_newObj_type ?_ (Nat.zero_le _)
  refine envOf1 hcf hpc ?_
  dsimp only
  generalize hH : h.push { cls := .type "list", dict := none, data := .seq ([] : List Value).toArray } = h₁
  have hz : h₁.objs.size = h.objs.size + 1 := by rw [← hH, Heap.size_push]
  have k01 : Sub h h₁ := fun b o e => hH ▸ Heap.get?_push_of_some _ e
  have hns : ((h₁.push { cls := .type "dict", data := .dict #[] }).push (cellO none)).Ns h₁.objs.size (fun zz => none) := (Heap.Ns.new h₁ (.type "dict")).push _
  have k12 : Sub h₁ ((h₁.push { cls := .type "dict", data := .dict #[] }).push (cellO none)) := fun b o e => Heap.get?_push_of_some _ (Heap.get?_push_of_some _ e)
  have eacc : h₁.get? h.objs.size = some (listOf ([] : List Value).toArray 0) := by rw [← hH]; exact Heap.get?_push_size _ rfl
  have ec : ((h₁.push { cls := .type "dict", data := .dict #[] }).push (cellO none)).get? (h₁.objs.size + 1) = some (cellO none) := by
    have : (h₁.push ({ cls := .type "dict", data := .dict #[] } : Obj)).objs.size = h₁.objs.size + 1 := Heap.size_push ..
    rw [← this]
    exact Heap.get?_push_size _ rfl
  refine comp_core hux (P := fun ys news' gs' => ∃ c₀ m', J c₀ n m' ys news' gs') (cs := [(h₁.objs.size + 1, cellO none)]) (D := h₁.objs.size) (acc := h.objs.size) F N hne hap hns (fun b o e => k12 _ _ (k01 _ _ e)) rfl hz (k12 _ _ eacc) ?_ ?_ ?_
  · intro p hp
    rw [List.mem_singleton.mp hp]
    exact ⟨Nat.lt_succ_self _, ec⟩
  · intro g' sg kN nsL hsz F' N' hai hna
    obtain ⟨hsrc, turn⟩ := inner g' h.objs.size h₁.objs.size (h₁.objs.size + 1) sg kN nsL hsz (Nat.lt_succ_self _)
    refine comp_loop IT hh rfl (J (h₁.objs.size + 1)) (fun i m ys news gs h' j F N => hsrc i m ys news gs h' j F.keep N) turn ?_ (j0 _ (by rw [hz]; lia)) F' N' hai hna i0
    intro m ys c news gs h t j F N hna
    exact ⟨rfl, .mk m ys c news h gs t F N hna ⟨_, m, j⟩⟩
  · intro ys c news' h'' gs' t'' F' N' h1 h2 ⟨c₀, m', hP⟩
    exact q _ ys c c₀ news' h'' gs' t'' m' hP F' N' h1 h2 (Nat.le_refl _)
end
end Mine
end
-- B29
section
namespace Mine
section
variable {prog : Program} {w : World} {A : Around} {E : Value → Shared → Prop} {K : Frag} {g : Heap} {mg mb : Str → Option Value} {Q : Value → Shared → Prop}
  {f c : Addr} {name qual : Str} {ar : Arguments} {b : List Stmt} {sc : Scope} {clos : List (Str × Addr)} {dV kV ct : Value} {args : List Value} {kw : List (Str × Value)} {binds : List (Str × Value)} {W : List (Addr × Obj)}
  {h : Heap} {gs : Array GenState} {d : Drawn} {t : Nat} {os : OsState}
theorem call_fnE (am : A.depth < recursionLimit) (hF : FnK K f name qual ar b sc clos dV kV c ct) (G : Gd K mg mb g) (sub : Sub g h) (sz : g.objs.size ≤ h.objs.size)
    (hW : ∀ p ∈ W, h.get? p.1 = some p.2 ∧ g.get? p.1 = none)
    (hbind : ∀ pm, BindsTo ⟨h, gs, d, t, os⟩ (fnX name qual ar b sc clos dV kV .none pm none (.ref c) ct) ⟨args, kw⟩ binds)
    (q : ∀ L h₁ t₁, Fr g L h₁ (fun y => binds.reverse.lookup y) → News g L h₁ W → (∀ p ∈ W, p.1 < L) → Sub h h₁ → h.objs.size ≤ L →
      wpAny (model prog w) (A.deeper (envX qual sc L f (.ref c) clos)) (execs b (envX qual sc L f (.ref c) clos))
        (fun fl s' => Q (match fl with | .ret v => v | _ => .none) s') (fun e s' => wpAny (model prog w) (A.deeper (envX qual sc L f (.ref c) clos)) (leaving (envX qual sc L f (.ref c) clos) e) (fun zz s'' => E e s'') (fun e' s'' => E e' s'') s') ⟨h₁, gs, d, t₁, os⟩)
    (hloc : (binds.all fun x => decide (sc.names.lookup x.1 = some .local)) = true := by with_unfolding_all rfl)
    (hcell : (sc.names.all fun x => !decide (x.2 = .cell)) = true := by with_unfolding_all rfl)
    (hco : sc.isCoroutine = false := by with_unfolding_all rfl) (hgen : sc.isGenerator = false := by with_unfolding_all rfl) (hk : sc.kind = .function := by with_unfolding_all rfl) :
    wpAny (model prog w) A (call (.ref f) args kw) Q E ⟨h, gs, d, t, os⟩ := by
  obtain ⟨⟨pm, ho⟩, hcd⟩ := hF
  have X := G.X.keeps sub
  refine wpAny_call (codeAny_call_def (fd := fnX name qual ar b sc clos dV kV .none pm none (.ref c) ct) (body := b) (binds := binds) am (X _ _ ho) rfl (G.nl.keeps sub) (codeRec_of X hcd) rfl (hbind pm)
    (fun x hx e => by have := List.all_eq_true.mp hcell x hx; rw [e] at this; exact absurd this (by decide)) (locs hloc) (fun h₁ hns hk₁ => ?_) hco hgen hk)
  exact wpAny_mono (q h.objs.size h₁ _ ⟨hns, fun b o e => hk₁ b o (sub b o e), sz⟩ (fun p hp => ⟨hk₁ _ _ (hW p hp).1, Nat.ne_of_lt (Heap.lt_size (hW p hp).1), (hW p hp).2⟩) (fun p hp => Heap.lt_size (hW p hp).1) hk₁ (Nat.le_refl _)) (fun fl s' hl => hl) fun e s' x => x
end
theorem entry_next : entryFor table "next" = some Builtin.«next» := entryFor_of_fast (by kernel_rfl)
theorem args_next (a : Value) : argsOk "next" ⟨[a], []⟩ := by unfold argsOk; kernel_rfl
theorem entry_iter : entryFor table "iter" = some Builtin.«iter» := entryFor_of_fast (by kernel_rfl)
theorem args_iter (a : Value) : argsOk "iter" ⟨[a], []⟩ := by unfold argsOk; kernel_rfl
structure StopE (h h' : Heap) (it e : Addr) : Prop where
  keeps : Heap.ExtBut it h h'
  new : h.get? e = none
  there : ∃ ob vs a0, h'.get? e = some ob ∧ ob.cls = .type "StopIteration" ∧ ob.data = .fields vs ∧ vs[1]? = some .none ∧ vs[0]? = some a0
section
variable {prog : Program} {w : World} {A : Around} {E : Value → Shared → Prop} {s : Shared} {it l : Addr} {i : Nat} {items : Array Value} {x : Value} {Q : Value → Shared → Prop}
theorem call_next_item (hit : s.heap.IsListIter it l i) (hl : s.heap.IsList l items) (hx : items[i]? = some x)
    (hQ : ∀ h', h'.IsListIter it l (i + 1) → Heap.SameBut it s.heap h' → Q x { s with heap := h' }) : wpAny (model prog w) A (call (.builtin "next") [.ref it]) Q E s := by
  obtain ⟨o, ho, hc, hd⟩ := id hit
  obtain ⟨ol, hol, _, nl, hdl⟩ := hl
  refine call_function_entry (by decide +kernel) (by decide +kernel) entry_next (args_next _) ?_
  unfold Builtin.«next»
  refine wpAny_bind (m := someArgs "next" 1 2 _) (wpAny_of_eq (a := [Value.ref it]) (by first | rfl | kernel_rfl!) ?_)
  dsimp only
  refine wpAny_bind (wpAny_specialOf (name := Str.ofString "__next__") hit.typeIs slot_listiter_next.lookup ?_)
  refine wpAny_ite_split (fun hab => absurd hab (by decide)) (fun zz => ?_)
  refine wpAny_bind (wpAny_callSpecial?_slot (name := Str.ofString "__next__") hit.typeIs slot_listiter_next
    (wpAny_call_entry slot_listiter_next hit.typeIs entry_listiter_next ?_ (args_listiter_next _)))
  show wpAny _ _ (field (.ref it) 0 >>= _) _ _ s
  refine wpAny_bind (wpAny_field ho hd (x := .ref l) rfl ?_)
  show wpAny _ _ (if (Value.ref l == Value.none) = true then _ else _) _ _ s
  rw [if_neg (show ¬ ((Value.ref l == Value.none) = true) from Bool.false_ne_true)]
  show wpAny _ _ (field (.ref it) 1 >>= _) _ _ s
  refine wpAny_bind (wpAny_field ho hd (x := .int i 0) rfl ?_)
  show wpAny _ _ (seqItems? (.ref l) >>= _) _ _ s
  refine wpAny_bind (wpAny_seqItems hol hdl ?_)
  simp only [Int.toNat_natCast, hx]
  refine wpAny_bind (wpAny_setField ho hd (by simp) (wpAny_pure ⟨x, rfl, wpAny_pure ⟨x, rfl, hQ _ ?_ (Heap.SameBut.update ..)⟩⟩))
  exact ⟨_, Heap.get?_update_self _ ho (Obj.isFreed_of_fields (Obj.data_mapFields hd _)), (Obj.cls_mapFields ..).trans hc, by
    rw [Obj.data_mapFields hd]; simp [rawInt]⟩
theorem call_next_stop (hh : A.handled = none) (hit : s.heap.IsListIter it l i) (hl : s.heap.IsList l items) (hx : items[i]? = none)
    (hE : ∀ h' e, StopE s.heap h' it e → E (.ref e) { s with heap := h' }) : wpAny (model prog w) A (call (.builtin "next") [.ref it]) Q E s := by
  obtain ⟨o, ho, hc, hd⟩ := id hit
  obtain ⟨ol, hol, _, nl, hdl⟩ := hl
  refine call_function_entry (by decide +kernel) (by decide +kernel) entry_next (args_next _) ?_
  unfold Builtin.«next»
  refine wpAny_bind (m := someArgs "next" 1 2 _) (wpAny_of_eq (a := [Value.ref it]) (by first | rfl | kernel_rfl!) ?_)
  dsimp only
  refine wpAny_bind (wpAny_specialOf (name := Str.ofString "__next__") hit.typeIs slot_listiter_next.lookup ?_)
  refine wpAny_ite_split (fun hab => absurd hab (by decide)) (fun zz => ?_)
  refine wpAny_bind (wpAny_callSpecial?_slot (name := Str.ofString "__next__") hit.typeIs slot_listiter_next
    (wpAny_call_entry slot_listiter_next hit.typeIs entry_listiter_next ?_ (args_listiter_next _)))
  show wpAny _ _ (field (.ref it) 0 >>= _) _ _ s
  refine wpAny_bind (wpAny_field ho hd (x := .ref l) rfl ?_)
  show wpAny _ _ (if (Value.ref l == Value.none) = true then _ else _) _ _ s
  rw [if_neg (show ¬ ((Value.ref l == Value.none) = true) from Bool.false_ne_true)]
  show wpAny _ _ (field (.ref it) 1 >>= _) _ _ s
  refine wpAny_bind (wpAny_field ho hd (x := .int i 0) rfl ?_)
  show wpAny _ _ (seqItems? (.ref l) >>= _) _ _ s
  refine wpAny_bind (wpAny_seqItems hol hdl ?_)
  simp only [Int.toNat_natCast, hx]
  refine wpAny_bind (wpAny_rule (wpAny_bind (wpAny_setField ho hd (by simp) ?_)))
  show wpAny _ _ (newExc (.type "StopIteration") [] >>= _) _ _ _
  refine wpAny_bind ?_
  simp only [newExc, newTuple]
  refine wpAny_bind (wpAny_newObj_type ?_ (by size_fits))
  refine wpAny_bind (m := firstArgMember _ _) (wpAny_of_eq (a := Value.none) (by first | rfl | (simp only [firstArgMember]; rfl)) ?_)
  refine wpAny_newObj_type ?_ (by size_fits)
  simp only [raiseNew]
  refine wpAny_bind (wpAny_handled ?_)
  rw [show A.in1.in1.handled = none from hh]
  refine wpAny_bind (wpAny_pure (wpAny_throw ?_))
  refine hE _ _ ⟨((Heap.SameBut.update ..).extBut.push _).push _, ?_, ?_⟩
  · exact none_of_size (by rw [Heap.size_push, Heap.size_update]; exact Nat.le_succ _)
  · exact ⟨_, _, _, Heap.get?_push_size _ rfl, rfl, rfl, rfl, rfl⟩
theorem call_iter_list {h : Heap} {gs : Array GenState} {d : Drawn} {t : Nat} {os : OsState} {g : Heap} {L : Addr} {m : Str → Option Value} {news : List (Addr × Obj)} {xs : Array Value} (F : Fr g L h m) (N : News g L h news) (hl : h.IsList l xs)
    (q : ∀ it h', Fr g L h' m → News g L h' ((it, listIt l 0) :: news) → (∀ p ∈ news, p.1 < it) → Sub h h' → Q (.ref it) ⟨h', gs, d, t, os⟩) :
    wpAny (model prog w) A (call (.builtin "iter") [.ref l]) Q E ⟨h, gs, d, t, os⟩ := by
  refine call_function_entry (by decide +kernel) (by decide +kernel) entry_iter (args_iter _) ?_
  unfold Builtin.«iter»
  refine wpAny_bind (m := someArgs "iter" 1 2 _) (wpAny_of_eq (a := [Value.ref l]) (by first | rfl | kernel_rfl!) ?_)
  show wpAny _ _ (pyIter (.ref l) >>= _) _ _ _
  exact wpAny_bind (r_iterList F N hl fun it h' F' N' lt k => wpAny_pure ⟨_, rfl, q it h' F' N' lt k⟩)
end
end Mine
end
-- B30
section
namespace Mine
section
variable {prog : Program} {w : World} {A : Around} {E : Value → Shared → Prop} {s : Shared} {env : Env} {elt : Expr} {sc : Scope} {pos : Pos} {acc : Addr} {Q : Unit → Shared → Prop}
theorem r_within {gens : List Comprehension} {depth : Nat} {target iter : Expr} {ifs : List Expr} (hg : gens[depth + 1]? = some ⟨target, iter, ifs, 0⟩)
    (h1 : wpAny (model prog w) A (eval iter env) (fun x s => wpAny (model prog w) A (pyIter x) (fun it s => codeAny (model prog w) A (.compStart (.ListComp elt gens sc pos) (depth + 1) it (.ref acc) env) (fun r s => r = .ok .next ∧ Q () s) s) E s) E s)
    (hs : ∀ x, foldedSetIterable iter env x = pure x := by intro _; with_unfolding_all rfl) :
    wpAny (model prog w) A (within elt gens sc pos depth (.ref acc) env) Q E s := by
  unfold within
  rw [hg]
  dsimp only
  refine wpAny_bind (wpAny_mono h1 (fun x s1 z => ?_) fun zz zz z => z)
  refine wpAny_bind (wpAny_standAt ?_)
  rw [if_neg (by decide), hs]
  refine wpAny_bind (wpAny_pure ?_)
  rw [if_neg (by decide)]
  refine wpAny_bind (wpAny_holding (wpAny_mono z (fun it s2 z2 => ?_) fun zz zz z => z))
  refine wpAny_bind (wpAny_runOwn ?_)
  refine codeAny_mono z2 fun r s3 hr => ?_
  obtain ⟨rfl, hq⟩ := hr
  exact wpAny_pure hq
end
theorem isTu {h : Heap} {l : Addr} {vs : List Value} (e : h.get? l = some (tupO vs)) : h.IsTuple l vs.toArray := ⟨_, e, rfl, _, rfl⟩
section
variable {M : Model} {A : Around} {E : Value → Shared → Prop} {h : Heap} {gs : Array GenState} {d : Drawn} {t : Nat} {os : OsState} {g : Heap} {L : Addr} {m : Str → Option Value} {news : List (Addr × Obj)} {Q : Value → Shared → Prop}
theorem r_newTupleG {vs : List Value} (F : Fr g L h m) (N : News g L h news)
    (q : ∀ us l h', us = vs → Fr g L h' m → News g L h' ((l, tupO us) :: news) → (∀ p ∈ news, p.1 < l) → h.objs.size ≤ l → Q (.ref l) ⟨h', gs, d, t, os⟩) (hsz : vs.length ≤ sizeLine := by size_fits) : wpAny M A (newTuple vs) Q E ⟨h, gs, d, t, os⟩ :=
  r_newTuple F N (fun l h' F N a b => q vs l h' rfl F N a b) hsz
theorem r_newListG {vs : List Value} (F : Fr g L h m) (N : News g L h news)
    (q : ∀ us l h', us = vs → Fr g L h' m → News g L h' ((l, listOf (List.toArray us) 0) :: news) → (∀ p ∈ news, p.1 < l) → h.objs.size ≤ l → Q (.ref l) ⟨h', gs, d, t, os⟩) (hsz : vs.length ≤ sizeLine := by size_fits) : wpAny M A (newList vs) Q E ⟨h, gs, d, t, os⟩ :=
  r_newList F N (fun l h' F N a b => q vs l h' rfl F N a b) hsz
end
inductive Rws (O : Addr → Obj → Prop) : List Value → List (List Int) → Prop
  | nil : Rws O [] []
  | cons (a : Addr) (vals : List Value) (c : Nat) (ds : List Int) {vs rs} : O a (listOf vals.toArray c) → IntsAre vals ds → Rws O vs rs → Rws O (.ref a :: vs) (ds :: rs)
theorem Rws.mono {O O' : Addr → Obj → Prop} (k : ∀ a o, O a o → O' a o) {vs rs} (p : Rws O vs rs) : Rws O' vs rs := by
  induction p with
  | nil => exact .nil
  | cons a vals c ds h i _ ih => exact .cons a vals c ds (k _ _ h) i ih
theorem Rws.snoc {O : Addr → Obj → Prop} {vs rs} (p : Rws O vs rs) {a : Addr} {vals : List Value} {c : Nat} {ds : List Int} (h : O a (listOf vals.toArray c)) (i : IntsAre vals ds) : Rws O (vs ++ [.ref a]) (rs ++ [ds]) := by
  induction p with
  | nil => exact .cons a vals c ds h i .nil
  | cons a vals c ds h i _ ih => exact .cons a vals c ds h i ih
theorem Rws.length {O : Addr → Obj → Prop} {vs rs} (p : Rws O vs rs) : vs.length = rs.length := by
  induction p with
  | nil => rfl
  | cons a vals c ds h i _ ih => simp [ih]
theorem Rws.get {O : Addr → Obj → Prop} {vs rs} (p : Rws O vs rs) {i : Nat} {v : Value} (hv : vs[i]? = some v) : ∃ a vals c ds, v = .ref a ∧ O a (listOf (List.toArray vals) c) ∧ IntsAre vals ds ∧ rs[i]? = some ds := by
  induction p generalizing i with
  | nil => simp at hv
  | cons a vals c ds h hi _ ih =>
    cases i with
    | zero => simp at hv; exact ⟨a, vals, c, ds, hv.symm, h, hi, rfl⟩
    | succ i => simp at hv; simpa using ih hv
noncomputable def isDig (n : Int) (j : Nat) : Bool := decide ((64 : Int) ^ j ≤ n) || j == 0
noncomputable def digs (n : Int) : List Int := (([3, 2, 1, 0] : List Nat).filter (isDig n)).map fun j => n / 64 ^ j % 64
end Mine
end
-- B32
section
namespace Mine
noncomputable abbrev enO (it : Addr) (i : Int) (old : Value) : Obj := { cls := .type "enumerate", dict := none, data := .fields #[.none, .bool false, .ref it, rawInt i, .none, old], slots := #[] }
noncomputable def IsLi (l : Addr) (i : Int) (o : Obj) : Prop := o.cls = .type "list_iterator" ∧ o.data = .fields #[.ref l, .int i 0]
section
variable {prog : Program} {w : World} {A : Around} {E : Value → Shared → Prop} {d : Drawn} {os : OsState} {g : Heap} {env : Env} {L : Addr}
theorem r_enum {l : Addr} {items : Array Value} {h : Heap} {gs : Array GenState} {t : Nat} {m : Str → Option Value} {news : List (Addr × Obj)} {Q : Value → Shared → Prop} (F : Fr g L h m) (N : News g L h news) (hl : h.IsList l items)
    (q : ∀ en it oi h', IsLi l 0 oi → Fr g L h' m → News g L h' ((en, enO it 0 .none) :: (it, oi) :: news) → (∀ p ∈ news, p.1 < it) → it < en → h.objs.size ≤ it → Sub h h' → Q (.ref en) ⟨h', gs, d, t, os⟩) :
    wpAny (model prog w) A (call (.type "enumerate") [.ref l] []) Q E ⟨h, gs, d, t, os⟩ := by
  refine call_enumerate_list hl fun h' he hi hz k => ?_
  obtain ⟨oi, hoi, hc, hd⟩ := hi
  have gn : ∀ a, h.objs.size ≤ a → g.get? a = none := fun a ha => none_of_size (Nat.le_trans (Fr.szle F) ha)
  have lL := F.ns.lt
  have F' : Fr g L h' m := Fr.sub F k
  have N' := News.keep N k
  exact q _ _ oi h' ⟨hc, hd⟩ F' (News.cons (News.cons N' hoi (Nat.ne_of_gt lL) (gn _ (Nat.le_refl _))) he (Nat.ne_of_gt (Nat.lt_succ_of_lt lL)) (gn _ (Nat.le_succ _))) (fun p hp => Heap.lt_size (N p hp).1) (Nat.lt_succ_self _) (Nat.le_refl _) k
theorem r_iterEnum {en it : Addr} {i : Int} {old : Value} {h : Heap} {gs : Array GenState} {t : Nat} {Q : Value → Shared → Prop} (e : h.get? en = some (enO it i old)) (q : Q (.ref en) ⟨h, gs, d, t, os⟩) :
    wpAny (model prog w) A (pyIter (.ref en)) Q E ⟨h, gs, d, t, os⟩ := wpAny_pyIter_enum e q
inductive Und (it : Addr) (oi : Obj) (J : (Str → Option Value) → List Value → List (Addr × Obj) → Array GenState → Prop) (m' : Str → Option Value) (ys' : List Value) : List (Addr × Obj) → Array GenState → Prop
  | mk (news' : List (Addr × Obj)) (gs' : Array GenState) (hni : ∀ p ∈ news', p.1 ≠ it) (j : J m' ys' news' gs') : Und it oi J m' ys' ((it, oi) :: news') gs'
inductive CompEJ (g : Heap) (D en it acc l : Addr) (d : Drawn) (os : OsState) (n : Nat) (J : Nat → (Str → Option Value) → List Value → List (Addr × Obj) → Array GenState → Prop) : Nat → Shared → Prop
  | mk (i : Nat) (m : Str → Option Value) (ys : List Value) (c : Nat) (news : List (Addr × Obj)) (gs : Array GenState) (h : Heap) (t : Nat) (oi : Obj) (old : Value) (hi : i ≤ n) (j : J i m ys news gs) (F : Fr g D h m)
    (N : News g D h ((en, enO it (i : Nat) old) :: (acc, listOf (List.toArray ys) c) :: (it, oi) :: news)) (hne : ∀ p ∈ (acc, listOf (List.toArray ys) c) :: (it, oi) :: news, p.1 ≠ en) (hna : ∀ p ∈ (it, oi) :: news, p.1 ≠ acc)
    (hni : ∀ p ∈ news, p.1 ≠ it) (hI : IsLi l (i : Nat) oi) : CompEJ g D en it acc l d os n J (n - i) ⟨h, gs, d, t, os⟩
theorem comp_loopE {D acc en it l : Addr} {items : Array Value} (hh : A.handled = none)
    {elt : Expr} {gens : List Comprehension} {sc : Scope} {pos : Pos} {depth : Nat} {xi xv : Str} {pi pv pt : Pos} {x1 : Nat} {iter : Expr} {ifs : List Expr} (hg : gens[depth]? = some ⟨.Tuple [.Name xi pi, .Name xv pv] x1 pt, iter, ifs, 0⟩) {R : Result → Shared → Prop}
    (J : Nat → (Str → Option Value) → List Value → List (Addr × Obj) → Array GenState → Prop)
    (hsrc : ∀ i m ys news gs h, J i m ys news gs → Fr g D h m → News g D h news → h.IsList l items ∧ l ≠ en ∧ l ≠ it)
    (turn : ∀ i m ys c news gs h t oi x u, items[i]? = some x → J i m ys news gs → Fr g D h m → News g D h ((en, enO it (i + 1 : Nat) x) :: (acc, listOf (List.toArray ys) c) :: (it, oi) :: news) → (∀ p ∈ (acc, listOf (List.toArray ys) c) :: (it, oi) :: news, p.1 ≠ en) → (∀ p ∈ (it, oi) :: news, p.1 ≠ acc) → (∀ p ∈ news, p.1 ≠ it) →
      wpAny (model prog w) A (storeName env xi (.int i u)) (fun zz s => wpAny (model prog w) A (storeName env xv x) (fun zz s => wpAny (model prog w) A (tests ifs env) (fun ok s₃ =>
        if ok = true then wpAny (model prog w) A (within elt gens sc pos depth (.ref acc) env) (fun zz s₄ => CompNext g D en acc d os (enO it (i + 1 : Nat) x) (Und it oi (J (i + 1))) s₄) (fun zz zz => False) s₃
        else CompNext g D en acc d os (enO it (i + 1 : Nat) x) (Und it oi (J (i + 1))) s₃) (fun zz zz => False) s) (fun zz zz => False) s) (fun zz zz => False) ⟨h, gs, d, t, os⟩)
    (fin : ∀ m ys c news gs h t, J items.size m ys news gs → Fr g D h m → News g D h ((acc, listOf (List.toArray ys) c) :: news) → (∀ p ∈ news, p.1 ≠ acc) → R (.ok .next) ⟨h, gs, d, t, os⟩)
    {m : Str → Option Value} {ys : List Value} {c : Nat} {news : List (Addr × Obj)} {gs : Array GenState} {h : Heap} {t : Nat} {oi : Obj}
    (j0 : J 0 m ys news gs) (F : Fr g D h m) (N : News g D h ((en, enO it 0 .none) :: (acc, listOf (List.toArray ys) c) :: (it, oi) :: news)) (hne : ∀ p ∈ (acc, listOf (List.toArray ys) c) :: (it, oi) :: news, p.1 ≠ en) (hna : ∀ p ∈ (it, oi) :: news, p.1 ≠ acc) (hni : ∀ p ∈ news, p.1 ≠ it) (i0 : IsLi l 0 oi) :
    codeAny (model prog w) A (.compStart (.ListComp elt gens sc pos) depth (.ref en) (.ref acc) env) R ⟨h, gs, d, t, os⟩ := by
  have loop : codeAny (model prog w) A (.compLoop (.ListComp elt gens sc pos) depth (.ref en) (.ref acc) env) R ⟨h, gs, d, t, os⟩ := by
    refine codeAny_loop rfl (CompEJ g D en it acc l d os items.size J) ?_ (items.size - 0) (.mk 0 m ys c news gs h t oi .none (Nat.zero_le _) j0 F N hne hna hni i0)
    rintro k s ⟨i, m, ys, c, news, gs, h, t, oi, old, hi, j, F, N, hne, hna, hni, hI⟩
    have hN := N _ (.head _)
    have hNi := N (it, oi) (.tail _ (.tail _ (.head _)))
    have hit : h.IsListIter it l i := ⟨oi, hNi.1, hI.1, hI.2⟩
    have hei : en ≠ it := Ne.symm (hne _ (.tail _ (.head _)))
    obtain ⟨hs, hle, hli⟩ := hsrc i m ys news gs h j F (News.sub N fun p hp => .tail _ (.tail _ (.tail _ hp)))
    show wpAny _ _ ((compTurn (.ListComp elt gens sc pos) depth (.ref en) (.ref acc) env).onRaise (fun x => do noteFrame x env; theTreesLotGoes x)) _ _ _
    refine wpAny_noted (comp_turn hg ?_)
    rcases Nat.lt_or_ge i items.size with hlt | hge
    · have hx : items[i]? = some items[i] := Array.getElem?_eq_getElem hlt
      refine wpAny_pyNext_enum_item hN.1 hit hs hx hei fun h1 ho hit1 hT hsz1 k1 => ?_
      refine wpAny_letOwnedTupleGo_enum ho fun h2 he2 hs2 => ?_
      dsimp only at he2 hs2 hsz1 k1 ho hT hit1 ⊢
      have hTne : (h.objs.size : Addr) ≠ en := Nat.ne_of_gt (Heap.lt_size hN.1)
      have k2 : ∀ b o, b ≠ en → b ≠ it → h.get? b = some o → h2.get? b = some o := fun b o hb hb2 e => (hs2.2 b hb).trans (k1 b o hb hb2 e)
      have hT2 : h2.get? h.objs.size = some (tupO [.int i t, items[i]]) := (hs2.2 _ hTne).trans hT
      obtain ⟨oi1, hoi1, hc1, hd1⟩ := hit1
      have hoi2 : h2.get? it = some oi1 := (hs2.2 it (Ne.symm hei)).trans hoi1
      have F2 : Fr g D h2 m := ⟨F.ns.at' fun o e => k2 _ o (Ne.symm hN.2.1) (Ne.symm hNi.2.1) e, fun b o e => k2 b o (fun z => by have := hN.2.2; rw [← z] at this; rw [this] at e; cases e) (fun z => by have := hNi.2.2; rw [← z] at this; rw [this] at e; cases e) (F.keep b o e), F.above⟩
      have N2 : News g D h2 ((en, enO it (i + 1 : Nat) items[i]) :: (acc, listOf (List.toArray ys) c) :: (it, oi1) :: news) := by
        intro p hp
        rcases List.mem_cons.mp hp with rfl | hp
        · exact ⟨he2, hN.2⟩
        rcases List.mem_cons.mp hp with rfl | hp
        · have z := N _ (.tail _ (.head _))
          exact ⟨k2 _ _ (hne _ (.head _)) (Ne.symm (hna _ (.head _))) z.1, z.2⟩
        rcases List.mem_cons.mp hp with rfl | hp
        · exact ⟨hoi2, hNi.2⟩
        · have z := N p (.tail _ (.tail _ (.tail _ hp)))
          exact ⟨k2 _ _ (hne p (.tail _ (.tail _ hp))) (hni p hp) z.1, z.2⟩
      have hne2 : ∀ p ∈ (acc, listOf (List.toArray ys) c) :: (it, oi1) :: news, p.1 ≠ en := ne_cons (hne _ (.head _)) (ne_cons (Ne.symm hei) fun p hp => hne p (.tail _ (.tail _ hp)))
      have hna2 : ∀ p ∈ (it, oi1) :: news, p.1 ≠ acc := ne_cons (p := (it, oi1)) (hna (it, oi) (.head _)) fun p hp => hna p (.tail _ hp)
      refine r_asTup hh F2 N2 hT2 (fun h3 F3 N3 k3 => ?_)
      refine x_ord ?_
      refine wpAny_mono (turn i m ys c news gs h3 (t + 1) oi1 items[i] t hx j F3 N3 hne2 hna2 hni) (fun zz s₁ z1 => ?_) fun zz zz x => x.elim
      refine x_ord ?_
      refine wpAny_mono z1 (fun zz s₂ z2 => ?_) fun zz zz x => x.elim
      refine x_ord0 ?_
      refine wpAny_mono z2 (fun ok s₃ z3 => ?_) fun zz zz x => x.elim
      have fin2 : ∀ s₄ : Shared, CompNext g D en acc d os (enO it (i + 1 : Nat) items[i]) (Und it oi1 (J (i + 1))) s₄ → ∃ k', k' < items.size - i ∧ CompEJ g D en it acc l d os items.size J k' s₄ :=
        by rintro s₄ ⟨m', ys', c', _, gs', h'', t'', F', N', hne', hna', ⟨news', _, hni', j'⟩⟩; exact ⟨items.size - (i + 1), zn (by assumption), .mk (i + 1) m' ys' c' news' gs' h'' t'' oi1 items[i] (by lia) j' F' N' hne' hna' hni' ⟨hc1, hd1⟩⟩
      cases ok with
      | true =>
        rw [if_pos rfl] at z3 ⊢
        exact wpAny_mono z3 (fun zz s₄ x => ⟨rfl, fin2 s₄ x⟩) fun zz zz x => x.elim
      | false =>
        rw [if_neg (by decide)] at z3 ⊢
        exact ⟨rfl, fin2 s₃ z3⟩
    · have e : i = items.size := Nat.le_antisymm hi hge
      subst e
      refine wpAny_pyNext_enum_end hh hN.1 hit hs (Array.getElem?_eq_none (Nat.le_refl _)) fun h' hx => ?_
      have N1 : News g D h ((acc, listOf (List.toArray ys) c) :: news) := News.sub N (fun p hp => by
        rcases List.mem_cons.mp hp with rfl | hp
        · exact .tail _ (.head _)
        · exact .tail _ (.tail _ (.tail _ hp)))
      exact fin m ys c news gs h' t j (Fr.ext F hNi.2.1 hNi.2.2 hx) (News.ext N1 (ne_cons (Ne.symm (hna _ (.head _))) hni) hx) fun p hp => hna p (.tail _ hp)
  exact comp_start hg (fun zz zz q => wpAny_pyIter_enum (N _ (.head _)).1 q) loop
end
end Mine
end
-- B33
section
namespace Mine
section
variable {prog : Program} {w : World} {A : Around} {E : Value → Shared → Prop} {d : Drawn} {os : OsState} {g : Heap} {L en it l : Addr} {env : Env} {Q : Value → Shared → Prop}
  {elt : Expr} {rest : List Comprehension} {sc : Scope} {pos : Pos} {cl : List (Str × Addr)} {iter : Expr} {ifs : List Expr} {ux : Ux} {xi xv : Str} {pi pv pt : Pos} {x1 : Nat}
theorem r_compForE {items : Array Value} (hh : A.handled = none)
    {h : Heap} {gs : Array GenState} {t : Nat} {m : Str → Option Value} {news : List (Addr × Obj)} {oi : Obj}
    (F : Fr g L h m) (N : News g L h ((en, enO it 0 .none) :: (it, oi) :: news)) (hei : it ≠ en) (hne : ∀ p ∈ news, p.1 ≠ en) (hni : ∀ p ∈ news, p.1 ≠ it) (i0 : IsLi l 0 oi) (hle : l ≠ en) (hli : l ≠ it)
    (J : Nat → (Str → Option Value) → List Value → List (Addr × Obj) → Array GenState → Prop) (j0 : J 0 (fun zz => none) [] [] gs)
    (inner : ∀ g' acc D, Sub g g' → (∀ p ∈ news, g'.get? p.1 = some p.2) → g'.Ns L m → g'.objs.size = h.objs.size →
      (∀ i m ys news gs h', J i m ys news gs → Sub g' h' → News g' D h' news → h'.IsList l items) ∧
      (∀ i m ys c news gs h t oi x u, items[i]? = some x → J i m ys news gs → Fr g' D h m → News g' D h ((en, enO it (i + 1 : Nat) x) :: (acc, listOf (List.toArray ys) c) :: (it, oi) :: news) → (∀ p ∈ (acc, listOf (List.toArray ys) c) :: (it, oi) :: news, p.1 ≠ en) → (∀ p ∈ (it, oi) :: news, p.1 ≠ acc) → (∀ p ∈ news, p.1 ≠ it) →
        wpAny (model prog w) A (storeName (compEnvC sc cl D env) xi (.int i u)) (fun zz s => wpAny (model prog w) A (storeName (compEnvC sc cl D env) xv x) (fun zz s => wpAny (model prog w) A (tests ifs (compEnvC sc cl D env)) (fun ok s₃ =>
          if ok = true then wpAny (model prog w) A (within elt (⟨.Tuple [.Name xi pi, .Name xv pv] x1 pt, iter, ifs, 0⟩ :: rest) sc pos 0 (.ref acc) (compEnvC sc cl D env)) (fun zz s₄ => CompNext g' D en acc d os (enO it (i + 1 : Nat) x) (Und it oi (J (i + 1))) s₄) (fun zz zz => False) s₃
          else CompNext g' D en acc d os (enO it (i + 1 : Nat) x) (Und it oi (J (i + 1))) s₃) (fun zz zz => False) s) (fun zz zz => False) s) (fun zz zz => False) ⟨h, gs, d, t, os⟩))
    (q : ∀ acc ys c news' h'' gs' t'' m', J items.size m' ys news' gs' → Fr g L h'' (uxMap ux acc m) → News g L h'' ((acc, listOf (List.toArray ys) c) :: (news' ++ news)) → (∀ p ∈ news' ++ news, p.1 ≠ acc) → (∀ p ∈ news', ∀ p' ∈ news, p.1 ≠ p'.1) → h.objs.size ≤ acc → Q (uxVal ux acc) ⟨h'', gs', d, t'', os⟩)
    (hux : UxOk env L ux := by (intro _ _ e; first | (cases e; done) | (cases e; exact ⟨by with_unfolding_all rfl, by with_unfolding_all rfl, by with_unfolding_all rfl⟩)))
    (hcell : (sc.names.all fun x => !decide (x.2 = .cell)) = true := by with_unfolding_all rfl) (hkind : sc.kind = .function := by with_unfolding_all rfl) :
    CompGoU prog w A env elt (⟨.Tuple [.Name xi pi, .Name xv pv] x1 pt, iter, ifs, 0⟩ :: rest) sc pos cl ux Q E (.ref en) ⟨h, gs, d, t, os⟩ := by
  refine wpAny_newObj_type ?_ (Nat.zero_le _)
  refine wpAny_newFunctionEnv (fun x hx e => by have := List.all_eq_true.mp hcell x hx; rw [e] at this; exact absurd this (by decide)) (by intro y hy; cases hy) (fun h₂ hns hsb => ?_) hkind
  dsimp only at hns hsb ⊢
  generalize hH : h.push { cls := .type "list", dict := none, data := .seq ([] : List Value).toArray } = h₁ at hns hsb ⊢
  have hz : h₁.objs.size = h.objs.size + 1 := by rw [← hH, Heap.size_push]
  have k01 : Sub h h₁ := fun b o e => hH ▸ Heap.get?_push_of_some _ e
  have k12 : Sub h₁ h₂ := fun b o e => hsb.extBut b o (Nat.ne_of_lt (Heap.lt_size e)) (Heap.get?_push_of_some _ e)
  have eacc : h₁.get? h.objs.size = some (listOf ([] : List Value).toArray 0) := by rw [← hH]; exact Heap.get?_push_size _ rfl
  have N0 : News g L h ((en, enO it 0 .none) :: ([(it, oi)] ++ news)) := N
  refine comp_core hux (P := fun ys news' gs' => ∃ m', J items.size m' ys news' gs') (cs := []) (mu := [(it, oi)]) (D := h₁.objs.size) (acc := h.objs.size) F N0 (ne_cons hei hne) (by intro p hp p' hp'; rw [List.mem_singleton.mp hp]; exact Ne.symm (hni p' hp')) hns (fun b o e => k12 _ _ (k01 _ _ e)) rfl hz (k12 _ _ eacc) (fun zz hp => nomatch hp) ?_ ?_
  · intro g' sg kN nsL hsz F' N' hai hna
    obtain ⟨hsrc, turn⟩ := inner g' h.objs.size h₁.objs.size sg kN nsL hsz
    refine comp_loopE hh rfl J (fun i m ys news gs h' j F N => ⟨hsrc i m ys news gs h' j F.keep N, hle, hli⟩) turn ?_ j0 F' N' hai hna ne_nil i0
    intro m ys c news gs h t j F N hna
    exact ⟨rfl, .mk m ys c news h gs t F N hna ⟨m, j⟩⟩
  · intro ys c news' h'' gs' t'' F' N' h1 h2 ⟨m', hP⟩
    exact q _ ys c news' h'' gs' t'' m' hP F' N' h1 h2 (Nat.le_refl _)
end
end Mine
end
-- F21
section
namespace Mine
noncomputable def octs : List Int → List Int
  | [] => []
  | [d] => [d + 128]
  | d :: e :: r => (d + 64) :: octs (e :: r)
noncomputable def valOf (ds : List Int) : Int := ds.foldl (fun v d => v * 64 + d) 0
theorem octs_len : ∀ ds : List Int, (octs ds).length = ds.length
  | [] => rfl
  | [d] => rfl
  | d :: e :: r => by simp [octs, octs_len (e :: r)]
theorem octs_at : ∀ (ds : List Int) (j : Nat) (h : j < ds.length), (octs ds)[j]? = some (if j + 1 = ds.length then ds[j] + 128 else ds[j] + 64)
  | [d], 0, _ => rfl
  | d :: e :: r, 0, _ => by simp [octs]
  | d :: e :: r, j + 1, h => by
    have := octs_at (e :: r) j (by simpa using h)
    simp only [octs, List.getElem?_cons_succ, List.getElem_cons_succ, List.length_cons] at this ⊢
    rw [this]
    by_cases hj : j + 1 = r.length + 1
    · rw [if_pos hj, if_pos (by lia)]
    · rw [if_neg hj, if_neg (by lia)]
theorem valOf_take (ds : List Int) (j : Nat) (h : j < ds.length) : valOf (ds.take (j + 1)) = valOf (ds.take j) * 64 + ds[j] := by
  unfold valOf
  rw [List.take_add_one, List.foldl_append, List.getElem?_eq_getElem h]
  rfl
theorem valOf_bound : ∀ (ds : List Int), (∀ d ∈ ds, 0 ≤ d ∧ d < 64) → ∀ v, 0 ≤ v → 0 ≤ ds.foldl (fun v d => v * 64 + d) v ∧ ds.foldl (fun v d => v * 64 + d) v < (v + 1) * 64 ^ ds.length
  | [], _, v, hv => by simp; lia
  | d :: r, hd, v, hv => by
    have h1 := hd d (.head _)
    have h2 := valOf_bound r (fun x hx => hd x (.tail _ hx)) (v * 64 + d) (by lia)
    refine ⟨h2.1, Int.lt_of_lt_of_le h2.2 ?_⟩
    rw [List.length_cons, Int.pow_succ, Int.mul_comm (64 ^ r.length) 64, ← Int.mul_assoc]
    exact Int.mul_le_mul_of_nonneg_right (by lia) (Int.pow_nonneg (by decide))
theorem and_shift (v d : Nat) (hd : d < 64) : (v * 64) &&& d = 0 := by
  refine Nat.eq_of_testBit_eq fun i => ?_
  rw [Nat.testBit_and, Nat.zero_testBit]
  rcases Nat.lt_or_ge i 6 with hi | hi
  · have : (v * 2 ^ 6).testBit i = false := by
      rw [Nat.testBit_mul_two_pow]
      simp; lia
    rw [show v * 64 = v * 2 ^ 6 by rfl, this]; rfl
  · have : d.testBit i = false := Nat.testBit_lt_two_pow (Nat.lt_of_lt_of_le hd (Nat.le_trans (by decide : 64 ≤ 2 ^ 6) (Nat.pow_le_pow_right (by decide) hi)))
    rw [this, Bool.and_false]
theorem or_shift {v d : Int} (hv : 0 ≤ v) (h0 : 0 ≤ d) (h1 : d < 64) : Builtin.bitOr (v * 64) d = v * 64 + d := by
  rw [bitOr_and]
  have : Builtin.bitAnd (v * 64) d = 0 := by
    obtain ⟨v, rfl⟩ := Int.eq_ofNat_of_zero_le hv
    obtain ⟨d, rfl⟩ := Int.eq_ofNat_of_zero_le h0
    have e1 : ((v : Int) * 64) = ((v * 64 : Nat) : Int) := by simp
    rw [e1]
    have e2 : Builtin.bitAnd ((v * 64 : Nat) : Int) (d : Int) = (((v * 64) &&& d : Nat) : Int) := rfl
    rw [e2]
    rw [and_shift v d (by lia)]
    rfl
  lia
theorem oct_bits (d : Int) (h0 : 0 ≤ d) (h1 : d < 64) : Builtin.bitAnd (d + 64) 63 = d ∧ Builtin.bitAnd (d + 128) 63 = d ∧ (Builtin.bitAnd (d + 64) 64 != 0) = true ∧ (Builtin.bitAnd (d + 128) 64 != 0) = false := by
  have h : ∀ d : Nat, d < 64 → Builtin.bitAnd ((d : Int) + 64) 63 = d ∧ Builtin.bitAnd ((d : Int) + 128) 63 = d ∧ (Builtin.bitAnd ((d : Int) + 64) 64 != 0) = true ∧ (Builtin.bitAnd ((d : Int) + 128) 64 != 0) = false := by decide +kernel
  obtain ⟨d, rfl⟩ := Int.eq_ofNat_of_zero_le h0
  exact h d (by lia)
theorem ints_at {vs : List Value} {ns : List Int} (h : IntsAre vs ns) {i : Nat} (hi : i < ns.length) : ∃ u, vs[i]? = some (.int (ns.getD i 0) u) := by
  induction h generalizing i with
  | nil => simp at hi
  | cons k u r ih =>
    cases i with
    | zero => exact ⟨u, rfl⟩
    | succ i => simpa using ih (by simpa using hi)
section
variable {w : World} {A : Around} {E : Value → Shared → Prop} {K : Frag} {mg mb : Str → Option Value} {Q : Value → Shared → Prop} {h g : Heap} {gs : Array GenState} {d : Drawn} {t : Nat} {os : OsState}
inductive VarJ (h : Heap) (gs : Array GenState) (d : Drawn) (os : OsState) (L it l : Addr) (i : Nat) (ds : List Int) : Nat → Shared → Prop
  | mk (j : Nat) (h' : Heap) (m' : Str → Option Value) (t' : Nat) (u u' : Tok) (o : Obj) (hj : j < ds.length) (F : Fr (h.hide it) L h' m') (N : News (h.hide it) L h' [(it, o)]) (c1 : o.cls = .type "list_iterator") (d1 : o.data = .fields #[.ref l, .int ((i + (j + 1) : Nat) : Int) 0])
    (m1 : m' "iterator" = some (.ref it)) (m2 : m' "b" = some (.int (if j + 1 = ds.length then ds[j] + 128 else ds[j] + 64) u)) (m3 : m' "val" = some (.int (valOf (ds.take (j + 1))) u')) : VarJ h gs d os L it l i ds (ds.length - j) ⟨h', gs, d, t', os⟩
set_option maxHeartbeats 1000000 in
theorem varint_spec (KF : FnK K 66 "_parse_varint" "_parse_varint" a_varint b_varint s_varint [] .none .none 65 .none) (nN : nsIn K mainGlobals "next" = some none) (G : Gd K mg mb (h.hide it)) (am : Amb A 4)
    {l : Addr} {i c : Nat} {vs : List Value} {os_ ds : List Int} (hit : h.IsListIter it l i) (hl : h.get? l = some (listOf vs.toArray c)) (hI : IntsAre vs os_) (hds : ds ≠ []) (hb : ∀ x ∈ ds, 0 ≤ x ∧ x < 64) (hlen : ds.length ≤ 4)
    (hat : ∀ j, j < ds.length → os_[i + j]? = (octs ds)[j]?)
    (q : ∀ h' t' u, Sub (h.hide it) h' → h'.IsListIter it l (i + ds.length) → Q (.int (valOf ds) u) ⟨h', gs, d, t', os⟩) :
    wpAny (model PW w) A (call (.ref 66) [.ref it] []) Q E ⟨h, gs, d, t, os⟩ := by
  obtain ⟨oI, eI, cI, dI⟩ := hit
  have hli : l ≠ it := ne_of_get hl eI (by intro e; rw [← e] at cI; exact absurd (Value.type.inj cI) (by decide))
  have hl' : (h.hide it).get? l = some (listOf vs.toArray c) := (Heap.hide_ne h hli).trans hl
  have hpos : 0 < ds.length := List.length_pos_iff.mpr hds
  refine call_fn am.room KF G (hideSub h it) (Nat.le_of_eq (Heap.hide_size h it)) (W := [(it, oI)]) ?_ (binds := [("iterator", .ref it)]) (fun pm => BindsTo.of_eq (by kernel_rfl)) ?_
  · intro p hp
    rcases List.mem_cons.mp hp with rfl | hp
    · exact ⟨eI, Heap.hide_self h it⟩
    · cases hp
  intro L h₁ t₁ F N lx kp hL
  have am2 := Amb.deeper (n := 3) (env := envX "_parse_varint" s_varint L 66 (.ref 65) []) am
  have hoct : ∀ j (hj : j < ds.length), ∃ u, vs[i + j]? = some (.int (if j + 1 = ds.length then ds[j] + 128 else ds[j] + 64) u) := by
    intro j hj
    have e := (hat j hj).trans (octs_at ds j hj)
    obtain ⟨u, hu⟩ := ints_at hI (i := i + j) (List.getElem?_eq_some_iff.mp e).1
    refine ⟨u, ?_⟩
    rw [hu, List.getD_eq_getElem?_getD, e]
    rfl
  have hdb : ∀ j (hj : j < ds.length), 0 ≤ ds[j] ∧ ds[j] < 64 := fun j hj => hb _ (List.getElem_mem hj)
  have nextR : ∀ {Q : Value → Shared → Prop} {E : Value → Shared → Prop} {j : Nat} {h' : Heap} {t' : Nat} {m' : Str → Option Value} {o : Obj}, j < ds.length → Fr (h.hide it) L h' m' → News (h.hide it) L h' [(it, o)] → o.cls = .type "list_iterator" → o.data = .fields #[.ref l, .int ((i + j : Nat) : Int) 0] →
      (∀ h'' o' u, (hj : j < ds.length) → Fr (h.hide it) L h'' m' → News (h.hide it) L h'' [(it, o')] → o'.cls = .type "list_iterator" → o'.data = .fields #[.ref l, .int ((i + (j + 1) : Nat) : Int) 0] → Q (.int (if j + 1 = ds.length then ds[j] + 128 else ds[j] + 64) u) ⟨h'', gs, d, t', os⟩) →
      wpAny (model PW w) (A.deeper (envX "_parse_varint" s_varint L 66 (.ref 65) [])) (call (.builtin "next") [.ref it]) Q E ⟨h', gs, d, t', os⟩ := by
    intro Q E j h' t' m' o hj F N c1 d1 qq
    obtain ⟨u, hu⟩ := hoct j hj
    refine call_next_item (s := ⟨h', gs, d, t', os⟩) ⟨o, n0 N, c1, d1⟩ (isL (F.keep _ _ hl')) (i := i + j) (by simpa using hu) fun h'' ⟨o', e', c', d'⟩ hs => ?_
    have hD := N _ (.head _)
    exact qq h'' o' u hj (Fr.same F hD.2.1 hD.2.2 hs) (News.same N (fun zz hp => nomatch hp) hs e') c' d'
  refine wpAny_execs_cons ?_
  wtm_at "go2"
  with_reducible refine nm_B F G nN bb_next ?_
  wtm_at "go2"
  refine nextR (j := 0) hpos F N cI dI ?_
  intro h₂ o2 u2 _ F N c2 d2
  wtm_at "sts"
  intro h₃ F N
  wtm_at "go2"
  with_reducible refine r_and ?_
  have hb0 := hdb 0 hpos
  obtain ⟨f1, f2, f3, f4⟩ := oct_bits _ hb0.1 hb0.2
  have e0 : Builtin.bitAnd (if 0 + 1 = ds.length then ds[0] + 128 else ds[0] + 64) 63 = valOf (ds.take 1) := by
    have hv : valOf (ds.take 1) = ds[0] := by
      have := valOf_take ds 0 hpos
      simpa [valOf] using this
    rw [hv]
    split
    · exact f2
    · exact f1
  rw [e0]
  wtm_at "sts"
  intro h₄ F N
  wtm_at "go2"
  refine wpAny_While ?_
  refine codeAny_whileLoop (VarJ h gs d os L it l i ds) ?_ ds.length (.mk 0 h₄ _ _ _ _ o2 hpos F N c2 d2 (by with_unfolding_all rfl) (by with_unfolding_all rfl) (by with_unfolding_all rfl))
  rintro k s ⟨j, h', m', t', u, u', o, hj, F, N, c1, d1, m1, m2, m3⟩
  have hbj := hdb j hj
  obtain ⟨f1, f2, f3, f4⟩ := oct_bits _ hbj.1 hbj.2
  wtm_at "go2"
  with_reducible refine r_and ?_
  wtm_at "go2"
  by_cases hlast : j + 1 = ds.length
  · rw [if_pos hlast, f4, if_neg (by decide)]
    rw [hlast, List.take_length] at m3
    wtm_at "go2"
    exact q h' _ _ F.keep ⟨o, n0 N, c1, by rw [d1, hlast]⟩
  · rw [if_neg hlast, f3, if_pos rfl]
    have hj1 : j + 1 < ds.length := by lia
    wtm_at "go2"
    have hvb := valOf_bound (ds.take (j + 1)) (fun x hx => hb x (List.mem_of_mem_take hx)) 0 (by lia)
    have hvb2 : valOf (ds.take (j + 1)) < 64 ^ 4 := by
      refine Int.lt_of_lt_of_le hvb.2 ?_
      rw [Int.zero_add, Int.one_mul]
      have : (ds.take (j + 1)).length ≤ 4 := by rw [List.length_take]; lia
      have h4 : ∀ k, k ≤ 4 → (64 : Int) ^ k ≤ 64 ^ 4 := by decide
      exact h4 _ this
    have hvb1 : 0 ≤ valOf (ds.take (j + 1)) := hvb.1
    have e64 : (64 : Int) ^ 4 = 16777216 := by decide
    with_reducible refine r_ishl ?_ ?_ ?_ ?_
    · decide
    · decide
    · lia
    wtm_at "sts"
    intro h₅ F N
    wtm_at "go2"
    with_reducible refine nm_B F G nN bb_next ?_
    wtm_at "go2"
    refine nextR hj1 F N c1 d1 ?_
    intro h₆ o6 u6 _ F N c6 d6
    wtm_at "sts"
    intro h₇ F N
    wtm_at "go2"
    with_reducible refine r_and ?_
    have hb1 := hdb (j + 1) hj1
    obtain ⟨k1, k2, k3, k4⟩ := oct_bits _ hb1.1 hb1.2
    have e1 : Builtin.bitAnd (if j + 1 + 1 = ds.length then ds[j + 1] + 128 else ds[j + 1] + 64) 63 = ds[j + 1] := by
      split
      · exact k2
      · exact k1
    rw [e1]
    with_reducible refine r_ior ?_
    have e2 : (2 : Int) ^ (6 : Int).toNat = 64 := by decide
    rw [e2, or_shift hvb1 hb1.1 hb1.2, ← valOf_take ds (j + 1) hj1]
    wtm_at "sts"
    intro h₈ F N
    wtm_at "go2"
    exact ⟨ds.length - (j + 1), zn (by assumption), .mk (j + 1) h₈ _ _ _ _ o6 hj1 F N c6 d6 m1 (by with_unfolding_all rfl) (by with_unfolding_all rfl)⟩
end
end Mine
end
-- F22
section
namespace Mine
section
variable {w : World} {A : Around} {E : Value → Shared → Prop} {K : Frag} {mg mb : Str → Option Value} {Q : Value → Shared → Prop} {h B : Heap} {gs : Array GenState} {d : Drawn} {t : Nat} {os : OsState}
theorem varint_stop (KF : FnK K 66 "_parse_varint" "_parse_varint" a_varint b_varint s_varint [] .none .none 65 .none) (nN : nsIn K mainGlobals "next" = some none) (G : Gd K mg mb B) (sub : Sub B h) (sz : B.objs.size ≤ h.objs.size) (am : Amb A 4)
    {outer : List Env} (hst : A.frames = some outer) (hff : h.FunFrames B outer) {it l : Addr} {c : Nat} {vs : List Value} (hit : h.IsListIter it l vs.length) (hin : B.get? it = none) (hl : B.get? l = some (listOf vs.toArray c))
    (q : ∀ e a0 h' t', Heap.FlyingW B outer e (.type "StopIteration") a0 h' → h.UpToSlots h' → E (.ref e) ⟨h', gs, d, t', os⟩) :
    wpAny (model PW w) A (call (.ref 66) [.ref it] []) Q E ⟨h, gs, d, t, os⟩ := by
  obtain ⟨oI, eI, cI, dI⟩ := hit
  refine call_fnE am.room KF G sub sz (W := []) (by simp) (binds := [("iterator", .ref it)]) (fun pm => BindsTo.of_eq (by kernel_rfl)) ?_
  intro L h₁ t₁ F N lx kp hL
  have am2 := Amb.deeper (n := 3) (env := envX "_parse_varint" s_varint L 66 (.ref 65) []) am
  refine wpAny_execs_cons ?_
  wtm_at "go2"
  with_reducible refine nm_B F G nN bb_next ?_
  wtm_at "go2"
  refine call_next_stop (s := ⟨h₁, gs, d, _, os⟩) am2.hd ⟨oI, kp _ _ eI, cI, dI⟩ (isL (F.keep _ _ hl)) (Array.getElem?_eq_none (by simp)) ?_
  intro h₂ e zq1
  obtain ⟨k2, hnew, ob, vs', a0, e1, e2, e3, e4, e5⟩ := zq1
  dsimp only at k2 hnew
  have hLi : L ≠ it := Nat.ne_of_gt (Nat.lt_of_lt_of_le (Heap.lt_size eI) hL)
  have hBL : B.get? L = none := none_of_size (Nat.le_trans sz hL)
  have hstay : Sub B h₂ := fun b o eb => k2 b o (fun z => by rw [z, hin] at eb; cases eb) (kp _ _ (sub _ _ eb))
  have hBe : B.get? e = none := by
    cases z : B.get? e with
    | none => rfl
    | some o => rw [kp _ _ (sub _ _ z)] at hnew; cases hnew
  have hnf : ∀ b o, h.get? b = some o → (∀ vs, o.data ≠ .fields vs) → h₂.get? b = some o := fun b o eb hn => k2 b o (fun z => by rw [z, eI] at eb; cases eb; exact hn _ dI) (kp _ _ eb)
  have hfs : h₂.FunFrames B (envX "_parse_varint" s_varint L 66 (.ref 65) [] :: outer) :=
    .cons (show s_varint.kind ≠ .module by decide) rfl (F.ns.at' fun o eo => k2 L o hLi eo) hBL (hff.of_keeps fun b o eb hn => ⟨o, hnf b o eb hn, rfl⟩)
  refine wpAny_leaving_firstW (base := B) (Around.frames_deeper hst) hfs rfl e1 hstay hBe e3 e4 e5 fun h' hL' => ?_
  obtain ⟨k1, ⟨_, _, k2'⟩, k3, k4⟩ := hL'
  refine q e a0 h' _ ⟨k1, hBe, k2', ?_⟩ ?_
  · rw [← e2]; exact k3
  · exact fun b o eb hn => k4 b o (hnf b o eb hn) hn
end
end Mine
end
-- F23
section
namespace Mine
noncomputable abbrev rEnv (L : Addr) : Env := envX "_law_read" s_read L 173 (.ref 172) (cellsFrom (L + 1) s_read.names [])
structure ReadK (K : Frag) : Prop where
  fn : FnK K 173 "_law_read" "_law_read" a_read b_read s_read [] .none .none 172 .none
  vi : FnK K 66 "_parse_varint" "_parse_varint" a_varint b_varint s_varint [] .none .none 65 .none
  nN : nsIn K mainGlobals "next" = some none
  nI : nsIn K mainGlobals "iter" = some none
  nS : nsIn K mainGlobals "StopIteration" = some none
  nV : nsIn K mainGlobals "_parse_varint" = some (some (.ref 66))
theorem IntsAre.snoc' {vs : List Value} {ns : List Int} (h : IntsAre vs ns) (n : Int) (t : Tok) : IntsAre (vs ++ [.int n t]) (ns ++ [n]) := by
  induction h with
  | nil => exact .cons n t .nil
  | cons k u _ ih => exact .cons k u ih
theorem four_at {t3 t2 t1 t0 : Tok} {k : Nat} {v : Value} (h : [Value.int 3 t3, .int 2 t2, .int 1 t1, .int 0 t0].toArray[k]? = some v) (hk : k < 4) : ∃ (j : Nat) (u : Tok), ([3, 2, 1, 0] : List Nat)[k]? = some j ∧ v = .int j u ∧ j ≤ 3 := by
  match k, hk, h with
  | 0, _, h => exact ⟨3, t3, rfl, (Option.some.inj h).symm, by decide⟩
  | 1, _, h => exact ⟨2, t2, rfl, (Option.some.inj h).symm, by decide⟩
  | 2, _, h => exact ⟨1, t1, rfl, (Option.some.inj h).symm, by decide⟩
  | 3, _, h => exact ⟨0, t0, rfl, (Option.some.inj h).symm, by decide⟩
inductive RowJ (gs : Array GenState) (ns : List Int) (c₀ : Addr) (i : Nat) (m : Str → Option Value) (ys : List Value) : List (Addr × Obj) → Array GenState → Prop
  | mk (oc : Obj) (v₀ : Option Value) (tl : List (Addr × Obj)) (hoc : oc.data = .cell v₀) (htl : ∀ p ∈ tl, p.1 ≠ c₀) (hR : Rws (fun a o => (a, o) ∈ tl) ys ((ns.map digs).take i)) : RowJ gs ns c₀ i m ys ((c₀, oc) :: tl) gs
section
variable {w : World} {A : Around} {E : Value → Shared → Prop} {K : Frag} {mg mb : Str → Option Value} {Q : Value → Shared → Prop} {h g : Heap} {gs : Array GenState} {d : Drawn} {t : Nat} {os : OsState} {L : Addr} {m : Str → Option Value}
noncomputable def valOfS : Option Stmt → Option PySem.Expr
  | some (.Assign _ e _) => some e
  | some (.Return e _) => e
  | _ => none
noncomputable def rowsS : Stmt := pick b_read[0]? _ (by with_unfolding_all rfl)
set_option maxHeartbeats 2000000 in
theorem rows_core {Q : Flow → Shared → Prop} (G : Gd K mg mb g) (am : Amb A 8) (F : Fr g L h m) {l c : Addr} {vs : List Value} {ns : List Int} {news : List (Addr × Obj)} (N : News g L h news) (hl : g.get? l = some (listOf vs.toArray c)) (hI : IntsAre vs ns)
    (mn : m "numbers" = some (.ref l)) (hb : ∀ n ∈ ns, 0 ≤ n ∧ n < 16777216) (hz : ns.length ≤ 100)
    (q : ∀ acc ys c' tl h' t', Rws (fun a o => (a, o) ∈ tl) ys (ns.map digs) → Fr g L h' (fun y => if y = "rows" then some (.ref acc) else m y) → News g L h' ((acc, listOf (List.toArray ys) c') :: (tl ++ news)) → (∀ p ∈ tl ++ news, p.1 ≠ acc) → (∀ p ∈ tl, ∀ p' ∈ news, p.1 ≠ p'.1) → L < acc → Q .next ⟨h', gs, d, t', os⟩) :
    wpAny (model PW w) A (exec rowsS (rEnv L)) Q E ⟨h, gs, d, t, os⟩ := by
  show wpAny _ _ (exec (.Assign [.Name _ _] (.ListComp _ _ _ _) _) _) _ _ _
  refine x_AssLC ?_
  wtm_at "go2"
  with_reducible refine r_iterList F N (isL (F.keep _ _ hl)) ?_
  intro it h₂ F N lit k2
  have hlv := IntsAre.length hI
  refine r_compFor1 (nm := "number") (mu := []) (Iter.list l vs.toArray) am.hd F N (lt_ne lit) (fun zz hp => nomatch hp) ⟨rfl, rfl⟩
    (RowJ gs ns) (fun c₀ hc => ⟨cellO none, none, [], rfl, (fun zz hp => nomatch hp), .nil⟩) ?_ ?_
  · intro g' acc D c₀ sg' kN nsL hsz hDc
    refine ⟨fun zz zz zz zz zz h' zz k zz => isL (k _ _ (sg' _ _ hl)), ?_⟩
    intro i m ys c news gs' h t o v hi zq11 hv hIt F N hne hna
    obtain ⟨oc, v₀, tl, hoc, htl, hR⟩ := zq11
    have hi' : i < ns.length := by rw [List.size_toArray] at hi; lia
    obtain ⟨u, hu⟩ := ints_at hI hi'
    have ev : v = .int (ns.getD i 0) u := by
      have : vs[i]? = some v := by simpa using hv
      rw [hu] at this; exact (Option.some.inj this).symm
    subst ev
    have hn : ns.getD i 0 = ns[i] := by simp [List.getD_eq_getElem?_getD, hi']
    have hnb := hb ns[i] (List.getElem_mem hi')
    rw [hn]
    generalize hnn : ns[i] = n at hnb
    refine wpAny_pure ?_
    wtm_at "go2"
    have N2 := News.sub (l' := (c₀, oc) :: (it, o) :: (acc, listOf ys.toArray c) :: tl) N (by
      refine pm_cons (by wtm_at "mm") (pm_cons (by wtm_at "mm") (pm_cons (by wtm_at "mm") ?_))
      exact pm_tail (pm_tail (pm_tail pm_id)))
    have hc1 : c₀ ≠ acc := hna (c₀, oc) (.head _)
    have hc2 : c₀ ≠ it := hne (c₀, oc) (.tail _ (.head _))
    refine r_stC F N2 (ne_cons (Ne.symm hc2) (ne_cons (Ne.symm hc1) htl)) hoc ?_
    intro h₃ oc' F N hoc'
    refine tests_nil ?_
    rw [if_pos rfl]
    refine r_emit rfl ?_
    with_reducible refine x_LC ?_
    wtm_at "go2"
    with_reducible refine r_newTupleG F N ?_
    intro us tp h₄ hus F N ltp _
    obtain ⟨t3, t2, t1, t0, hus⟩ : ∃ t3 t2 t1 t0, us = [Value.int 3 t3, .int 2 t2, .int 1 t1, .int 0 t0] := ⟨_, _, _, _, hus⟩
    subst hus
    with_reducible refine r_iterTuple F N (isTu (n0 N)) ?_
    intro it2 h₅ F N lit2 k5
    have am2 : A.handled = none := am.hd
    have e5a := (N (acc, listOf ys.toArray c) (by wtm_at "mm")).1
    have e5c := (N (c₀, oc') (by wtm_at "mm")).1
    have e5i := (N (it, o) (by wtm_at "mm")).1
    refine r_compForP (Iter.tuple tp [Value.int 3 t3, .int 2 t2, .int 1 t1, .int 0 t0].toArray) am2 F N (lt_ne lit2) ⟨rfl, rfl⟩ (fun k ys => IntsAre ys ((([3, 2, 1, 0] : List Nat).take k).filter (isDig n) |>.map fun j => n / 64 ^ j % 64)) .nil ?_ ?_
    · intro g2 acc2 D2 sg2 kN2 nsL2 hsz2
      refine ⟨fun h' k => isTu (k _ _ (kN2 (tp, _) (.head _))), ?_⟩
      intro k m2 ys2 cc h6 t6 o6 v6 hk hS F6 N6 hai2 hI6 hv6
      have hk4 : k < 4 := hk
      obtain ⟨j, u6, hj, rfl, hj3⟩ := four_at hv6 hk4
      have hpw : (1 : Int) ≤ 64 ^ j ∧ (64 : Int) ^ j ≤ 262144 := by
        have : ∀ j, j < 4 → (1 : Int) ≤ 64 ^ j ∧ (64 : Int) ^ j ≤ 262144 := by decide
        exact this j (by lia)
      refine wpAny_pure ?_
      wtm_at "go2"
      wtm_at "sts"
      intro h7 F7 N7
      have hnum : h7.get? c₀ = some oc' := F7.keep _ _ (kN2 (c₀, oc') (by wtm_at "mm"))
      refine wpAny_mono (Q := fun ok s₃ => ok = isDig n j ∧ ∃ t', s₃ = ⟨h7, gs, d, t', os⟩) (E := fun zz zz => False) ?_ (fun ok s₃ hok => ?_) fun zz zz z => z.elim
      · wtm_at "go2"
        with_reducible refine nm_C hnum hoc' ?_
        wtm_at "go2"
        have e7 : (Builtin.Int.intBits 64 : Int) = 7 := by decide +kernel
        with_reducible refine r_pow ?_ ?_ ?_
        · lia
        · rw [e7]; lia
        rw [Int.toNat_natCast]
        refine PyProof.Rows.ge_int ?_
        wtm_at "go2"
        by_cases hge : (64 : Int) ^ j ≤ n
        · rw [decide_eq_true hge, if_pos rfl]
          exact ⟨by simp [isDig, hge], _, rfl⟩
        · rw [decide_eq_false hge, if_neg (by decide)]
          wtm_at "go2"
          by_cases hj0 : j = 0
          · subst hj0
            refine ⟨by simp [isDig], _, rfl⟩
          · have e0 : ((j : Int) == 0) = false := by simp; lia
            rw [e0, if_neg (by decide)]
            refine isTrue_or_nil ?_
            exact ⟨by simp [isDig, hge, hj0], _, rfl⟩
      obtain ⟨rfl, t7, rfl⟩ := hok
      have htake : ([3, 2, 1, 0] : List Nat).take (k + 1) = ([3, 2, 1, 0] : List Nat).take k ++ [j] := by rw [List.take_add_one, hj]; rfl
      by_cases hdg : isDig n j = true
      · rw [hdg, if_pos rfl]
        refine r_emit rfl ?_
        wtm_at "go2"
        with_reducible refine nm_C hnum hoc' ?_
        wtm_at "go2"
        have e7 : (Builtin.Int.intBits 64 : Int) = 7 := by decide +kernel
        with_reducible refine r_pow ?_ ?_ ?_
        · lia
        · rw [e7]; lia
        rw [Int.toNat_natCast]
        with_reducible refine r_div ?_ ?_ ?_
        · lia
        · lia
        wtm_at "go2"
        with_reducible refine r_mod ?_ ?_
        · decide
        have hlen := IntsAre.length hS
        refine papp F7 N7 hai2 ?_ ?_
        · rw [hlen, sizeLine_eq, List.length_map]
          have := List.length_filter_le (isDig n) (([3, 2, 1, 0] : List Nat).take k)
          rw [List.length_take] at this
          have : ([3, 2, 1, 0] : List Nat).length = 4 := rfl
          lia
        · rw [htake, List.filter_append, List.map_append]
          simp only [List.filter_cons, hdg, if_true, List.filter_nil]
          exact IntsAre.snoc' hS _ _
      · have hdf : isDig n j = false := by simpa using hdg
        rw [hdf, if_neg (by decide)]
        refine pnext F7 N7 hai2 ?_
        · rw [htake, List.filter_append, List.map_append]
          simp only [List.filter_cons, hdf, Bool.false_eq_true, if_false, List.filter_nil, List.map_nil, List.append_nil]
          exact hS
    · intro acc2 ys2 cc h6 t6 hS F N hna2 hacc2
      have hS' : IntsAre ys2 (digs n) := by
        have : ([3, 2, 1, 0] : List Nat).take [Value.int 3 t3, .int 2 t2, .int 1 t1, .int 0 t0].toArray.size = [3, 2, 1, 0] := rfl
        rw [this] at hS
        exact hS
      have ltA : ∀ {x : Addr} {ob : Obj}, h₅.get? x = some ob → x ≠ acc2 := fun e => Nat.ne_of_lt (Nat.lt_of_lt_of_le (Heap.lt_size e) hacc2)
      have hyl := Rws.length hR
      have N2 := News.sub (l' := (acc, listOf ys.toArray c) :: (c₀, oc') :: (it, o) :: (acc2, listOf ys2.toArray cc) :: tl) N (by
        refine pm_cons (by wtm_at "mm") (pm_cons (by wtm_at "mm") (pm_cons (by wtm_at "mm") (pm_cons (by wtm_at "mm") ?_)))
        exact pm_tail (pm_tail (pm_tail (pm_tail (pm_tail pm_id)))))
      with_reducible refine r_append F N2 ?_ ?_ ?_
      · exact ne_cons hc1 (ne_cons (Ne.symm (hne (acc, listOf ys.toArray c) (.head _))) (ne_cons (Ne.symm (ltA e5a)) fun p hp => hna p (.tail _ hp)))
      · rw [List.size_toArray, hyl, sizeLine_eq, List.length_take, List.length_map]; lia
      intro h7 F N hsz7
      rw [List.push_toArray] at N
      refine cnext F (News.sub (l' := (it, o) :: (acc, listOf (List.toArray _) _) :: (c₀, oc') :: (acc2, listOf ys2.toArray cc) :: tl) N (by
        refine pm_cons (by wtm_at "mm") (pm_cons (by wtm_at "mm") (pm_cons (by wtm_at "mm") (pm_cons (by wtm_at "mm") ?_)))
        exact pm_tail (pm_tail (pm_tail (pm_tail pm_id))))) ?_ ?_ ⟨oc', _, (acc2, listOf ys2.toArray cc) :: tl, hoc', ?_, ?_⟩
      · exact ne_cons (hne (acc, listOf ys.toArray c) (.head _)) (ne_cons hc2 (ne_cons (Ne.symm (ltA e5i)) fun p hp => hne p (.tail _ (.tail _ hp))))
      · exact ne_cons hc1 (ne_cons (Ne.symm (ltA e5a)) fun p hp => hna p (.tail _ hp))
      · exact ne_cons (Ne.symm (ltA e5c)) htl
      · rw [List.take_add_one, List.getElem?_map, List.getElem?_eq_getElem hi', hnn]
        exact (hR.mono fun a o x => .tail _ x).snoc (.head _) hS'
  · intro acc ys c c₀ news' h'' gs' t'' m' zq9 F N hna hap hacc
    obtain ⟨oc, v₀, tl, hoc, htl, hR⟩ := zq9
    have e : (ns.map digs).take vs.toArray.size = ns.map digs := by rw [List.size_toArray, hlv, ← List.length_map (f := digs), List.take_length]
    rw [e] at hR
    have hL2 := Fr.lt ‹Fr g L h₂ m›
    refine q acc ys c ((c₀, oc) :: tl) h'' t'' (hR.mono fun a o x => .tail _ x) F N hna hap (Nat.lt_of_lt_of_le hL2 hacc)
end
end Mine
end
-- F24
section
namespace Mine
theorem octs_eq : ∀ (ds : List Int), (h : ds ≠ []) → octs ds = ds.dropLast.map (· + 64) ++ [ds.getLast h + 128]
  | [d], _ => rfl
  | d :: e :: r, _ => by
    have := octs_eq (e :: r) (by simp)
    simp only [octs, this]
    simp
theorem IntsAre.append' {vs vs' : List Value} {ns ns' : List Int} (h : IntsAre vs ns) (h' : IntsAre vs' ns') : IntsAre (vs ++ vs') (ns ++ ns') := by
  induction h with
  | nil => exact h'
  | cons k u _ ih => exact .cons k u ih
theorem IntsAre.take' {vs : List Value} {ns : List Int} (h : IntsAre vs ns) : ∀ k : Nat, IntsAre (vs.take k) (ns.take k) := by
  induction h with
  | nil => intro k; simp; exact .nil
  | cons x u r ih => intro k; cases k with
    | zero => exact .nil
    | succ k => exact .cons x u (ih k)
theorem IntsAre.dropLast' {vs : List Value} {ns : List Int} (h : IntsAre vs ns) : IntsAre vs.dropLast ns.dropLast := by
  rw [List.dropLast_eq_take, List.dropLast_eq_take, IntsAre.length h]
  exact IntsAre.take' h _
theorem slice_butLast (vs : List Value) : slicePick vs.toArray none (some (-1)) none = vs.dropLast.toArray := by
  have := slicePick_butLast vs.toArray 1 (Nat.le_refl _)
  rw [List.dropLast_eq_take]
  simpa using this
theorem flat_len : ∀ (rs : List (List Int)), (∀ ds ∈ rs, ds.length ≤ 4) → ((rs.map octs).flatten).length ≤ 4 * rs.length
  | [], _ => by simp
  | ds :: r, h => by
    have h1 := h ds (.head _)
    have h2 := flat_len r fun x hx => h x (.tail _ hx)
    simp only [List.map_cons, List.flatten_cons, List.length_append, List.length_cons, octs_len]
    lia
section
variable {w : World} {A : Around} {E : Value → Shared → Prop} {K : Frag} {mg mb : Str → Option Value} {Q : Value → Shared → Prop} {h g : Heap} {gs : Array GenState} {d : Drawn} {t : Nat} {os : OsState} {L : Addr} {m : Str → Option Value}
noncomputable def argOf : Option PySem.Expr → Option PySem.Expr
  | some (.Call _ [e] _ _) => some e
  | _ => none
noncomputable def octE : PySem.Expr := pick (argOf (valOfS b_read[1]?)) _ (by with_unfolding_all rfl)
set_option maxHeartbeats 2000000 in
theorem oct_core (am : Amb A 8) (F : Fr g L h m) {rl c₁ : Addr} {rv : List Value} {rs : List (List Int)} {news : List (Addr × Obj)} (N : News g L h news) (hl : (rl, listOf rv.toArray c₁) ∈ news) (hR : Rws (fun a o => (a, o) ∈ news) rv rs)
    (mn : m "rows" = some (.ref rl)) (hb : ∀ ds ∈ rs, 1 ≤ ds.length ∧ ds.length ≤ 4) (hz : rs.length ≤ 100)
    (q : ∀ acc ys c' h' t', IntsAre ys (rs.map octs).flatten → Fr g L h' m → News g L h' ((acc, listOf (List.toArray ys) c') :: news) → (∀ p ∈ news, p.1 ≠ acc) → L < acc → Q (.ref acc) ⟨h', gs, d, t', os⟩) :
    wpAny (model PW w) A (eval octE (rEnv L)) Q E ⟨h, gs, d, t, os⟩ := by
  show wpAny _ _ (eval (.ListComp _ _ _ _) _) _ _ _
  with_reducible refine x_LC ?_
  wtm_at "go2"
  have erl := (N _ hl).1
  with_reducible refine r_iterList F N (isL erl) ?_
  intro it h₂ F N lit k2
  have hlv := Rws.length hR
  refine r_compForP (Iter.list rl rv.toArray) am.hd F N (lt_ne lit) ⟨rfl, rfl⟩ (fun i ys => IntsAre ys ((rs.take i).map octs).flatten) .nil ?_ ?_
  · intro g' acc D sg' kN nsL hsz
    refine ⟨fun h' k => isL (k _ _ (kN _ hl)), ?_⟩
    intro i m ys c h t o v hi hS F N hai hIt hv
    obtain ⟨a, vals, ca, ds, rfl, ha, hV, hds⟩ := hR.get (show rv[i]? = some v by simpa using hv)
    have ha' := kN _ ha
    have hdb := hb ds (List.mem_of_getElem? hds)
    have hvl := IntsAre.length hV
    refine wpAny_pure ?_
    wtm_at "go2"
    wtm_at "sts"
    intro h₃ F N
    refine tests_nil ?_
    rw [if_pos rfl]
    refine r_within rfl ?_
    wtm_at "go2"
    with_reducible refine x_LC ?_
    wtm_at "go2"
    with_reducible refine x_Slice (part_none ?_)
    with_reducible refine part_some ?_
    wtm_at "go2"
    with_reducible refine r_neg ?_
    refine r_slice F N ?_
    intro sl h₄ F N lsl k4 _
    refine r_sliceL F N (F.keep _ _ ha') (.head _) .none (.int _ _) (by rw [sizeLine_eq]; lia) ?_ (by with_unfolding_all rfl)
    intro sr h₅ F N lsr k5 _
    rw [slice_butLast vals] at N
    with_reducible refine r_iterList F N (isL (n0 N)) ?_
    intro it2 h₆ F N lit2 k6
    have hVd := IntsAre.dropLast' hV
    have hVdl := IntsAre.length hVd
    refine r_compForP (Iter.list sr vals.dropLast.toArray) am.hd F N (lt_ne lit2) ⟨rfl, rfl⟩ (fun k ys => IntsAre ys ((ds.dropLast.take k).map (· + 64))) .nil ?_ ?_
    · intro g2 acc2 D2 sg2 kN2 nsL2 hsz2
      refine ⟨fun h' k => isL (k _ _ (kN2 _ (.head _))), ?_⟩
      intro k m2 ys2 cc h6 t6 o6 v6 hk hS2 F6 N6 hai2 hI6 hv6
      have hk' : k < ds.dropLast.length := by rw [List.size_toArray] at hk; exact zlel hk (by assumption)
      obtain ⟨u, hu⟩ := ints_at hVd hk'
      have ev : v6 = .int (ds.dropLast.getD k 0) u := by
        have : vals.dropLast[k]? = some v6 := by simpa using hv6
        rw [hu] at this; exact (Option.some.inj this).symm
      subst ev
      refine wpAny_pure ?_
      wtm_at "go2"
      wtm_at "sts"
      intro h7 F7 N7
      refine tests_nil ?_
      rw [if_pos rfl]
      refine r_emit rfl ?_
      wtm_at "go2"
      have hlen := IntsAre.length hS2
      refine papp F7 N7 hai2 ?_ ?_
      · have hdl : ds.dropLast.length = ds.length - 1 := List.length_dropLast
        rw [hlen, sizeLine_eq, List.length_map, List.length_take]; lia
      · have e : ds.dropLast[k]? = some (ds.dropLast.getD k 0) := by
          rw [List.getD_eq_getElem?_getD, List.getElem?_eq_getElem hk']; rfl
        rw [List.take_add_one, e, List.map_append]
        exact IntsAre.snoc' hS2 _ _
    · intro acc2 ys2 cc h6 t6 hS2 F N hna2 hacc2
      have e : ds.dropLast.take vals.dropLast.toArray.size = ds.dropLast := by rw [List.size_toArray, hVdl, List.take_length]
      rw [e] at hS2
      wtm_at "go2"
      with_reducible refine r_neg ?_
      have hne0 : ds ≠ [] := by intro e; rw [e] at hdb; exact absurd hdb.1 (by decide)
      obtain ⟨u, hu⟩ := ints_at hV (i := ds.length - 1) (zpred hdb.1)
      have elast : ds.getD (ds.length - 1) 0 = ds.getLast hne0 := by
        rw [List.getLast_eq_getElem, List.getD_eq_getElem?_getD, List.getElem?_eq_getElem (zpred hdb.1)]; rfl
      rw [elast] at hu
      with_reducible refine r_subLn (F.keep _ _ ha') ?_ ?_ ?_ (x := .int (ds.getLast hne0) u) ?_ ?_
      · lia
      · rw [List.size_toArray, hvl]; exact zng hdb.1
      · lia
      · rw [List.size_toArray, hvl, zt1 hdb.1]
        simpa using hu
      wtm_at "go2"
      with_reducible refine r_newListG F N ?_
      intro us l1 h7 hus F N _ _
      have hl2 := IntsAre.length hS2
      have hdl : ds.dropLast.length = ds.length - 1 := List.length_dropLast
      rw [List.length_map] at hl2
      refine r_addL F N (n1 N) (n0 N) (by rw [sizeLine_eq, hus]; simp; lia) ?_
      intro b2 h8 F N lb2 k8 _
      have hO : IntsAre (ys2 ++ us) (octs ds) := by
        rw [octs_eq ds hne0, hus]
        exact IntsAre.append' hS2 (.cons _ _ .nil)
      generalize hov : ys2 ++ us = ov at N hO
      with_reducible refine r_iterList F N (isL (n0 N)) ?_
      intro it3 h9 F N lit3 k9
      have hol := IntsAre.length hO
      have N3 := News.sub (l' := (it3, listIt b2 0) :: (acc, listOf ys.toArray c) :: (b2, listOf ov.toArray 0) :: (it, o) :: []) N (by wtm_at "prm")
      have lAb := lb2 (acc, listOf ys.toArray c) (by wtm_at "mm")
      have lIb := lb2 (it, o) (by wtm_at "mm")
      have lAi := lit3 (acc, listOf ys.toArray c) (by wtm_at "mm")
      have lIi := lit3 (it, o) (by wtm_at "mm")
      have hb3 : b2 < it3 := lit3 (b2, _) (.head _)
      refine comp_loop (depth := 1) (Iter.list b2 ov.toArray) am.hd rfl (fun k m ys' news' gs2' => gs2' = gs ∧ news' = [(b2, listOf ov.toArray 0), (it, o)] ∧ IntsAre ys' (((rs.take i).map octs).flatten ++ (octs ds).take k)) ?_ ?_ ?_ ⟨rfl, rfl, by simpa using hS⟩ F N3 ?_ ?_ ⟨rfl, rfl⟩
      · intro k m3 ys3 news3 gs3 hh zq6 _ N
        obtain ⟨_, rfl, _⟩ := zq6
        exact isL (n0 N)
      · intro k m3 ys3 c3 news3 gs3 hh t3 o3 v3 hk zq11 hv3 hI3 F3 N3 hne3 hna3
        obtain ⟨rfl, rfl, hS3⟩ := zq11
        have hk' : k < (octs ds).length := by rw [List.size_toArray] at hk; exact zlel hk (by assumption)
        obtain ⟨u3, hu3⟩ := ints_at hO hk'
        have ev : v3 = .int ((octs ds).getD k 0) u3 := by
          have : ov[k]? = some v3 := by simpa using hv3
          rw [hu3] at this; exact (Option.some.inj this).symm
        subst ev
        refine wpAny_pure ?_
        wtm_at "go2"
        wtm_at "sts"
        intro h10 F4 N4
        refine tests_nil ?_
        rw [if_pos rfl]
        refine r_emit rfl ?_
        wtm_at "go2"
        have hlen := IntsAre.length hS3
        have hai3 : acc ≠ it3 := hne3 (acc, listOf ys3.toArray c3) (.head _)
        have hba : b2 ≠ acc := hna3 (b2, _) (.head _)
        have hia : it ≠ acc := hna3 (it, o) (.tail _ (.head _))
        have N5 := News.sub (l' := (acc, listOf ys3.toArray c3) :: (it3, o3) :: (b2, listOf ov.toArray 0) :: (it, o) :: []) N4 (by wtm_at "prm")
        with_reducible refine r_append F4 N5 ?_ ?_ ?_
        · exact ne_cons (Ne.symm hai3) (ne_cons hba (ne_cons hia ne_nil))
        · rw [List.size_toArray, hlen, sizeLine_eq, List.length_append, List.length_take]
          have := flat_len (rs.take i) fun ds hd => (hb ds (List.mem_of_mem_take hd)).2
          rw [List.length_take] at this
          rw [octs_len]
          lia
        intro h11 F6 N6 hsz6
        rw [List.push_toArray] at N6
        refine cnext F6 (News.sub (l' := (it3, o3) :: (acc, listOf (List.toArray _) _) :: (b2, listOf ov.toArray 0) :: (it, o) :: []) N6 (by wtm_at "prm")) ?_ ?_ ⟨rfl, rfl, ?_⟩
        · exact ne_cons hai3 (ne_cons (Nat.ne_of_lt hb3) (ne_cons (Nat.ne_of_lt lIi) ne_nil))
        · exact ne_cons hba (ne_cons hia ne_nil)
        · have e : (octs ds)[k]? = some ((octs ds).getD k 0) := by
            rw [List.getD_eq_getElem?_getD, List.getElem?_eq_getElem hk']; rfl
          rw [List.take_add_one, e, ← List.append_assoc]
          exact IntsAre.snoc' hS3 _ _
      · intro m3 ys3 c3 news3 gs3 hh t3 zq7 F3 N3 hna3
        obtain ⟨rfl, rfl, hS3⟩ := zq7
        have e : (octs ds).take ov.toArray.size = octs ds := by rw [List.size_toArray, hol, List.take_length]
        rw [e] at hS3
        refine ⟨rfl, pnext F3 (News.sub (l' := (it, o) :: (acc, listOf ys3.toArray c3) :: []) N3 (by wtm_at "prm")) hai ?_⟩
        · rw [List.take_add_one, hds, List.map_append, List.flatten_append]
          simpa using hS3
      · exact ne_cons (Nat.ne_of_lt lAi) (ne_cons (Nat.ne_of_lt hb3) (ne_cons (Nat.ne_of_lt lIi) ne_nil))
      · exact ne_cons (Nat.ne_of_gt lAb) (ne_cons (Ne.symm hai) ne_nil)
  · intro acc ys c h'' t'' hS F N hna hacc
    have e : rs.take rv.toArray.size = rs := by rw [List.size_toArray, hlv, List.take_length]
    rw [e] at hS
    have hL2 := Fr.lt ‹Fr g L h₂ m›
    exact q acc ys c h'' t'' hS F N hna (Nat.lt_of_lt_of_le hL2 hacc)
end
end Mine
end
-- B31
section
namespace Mine
theorem isDig_cases (n : Int) : isDig n 0 = true ∧ (isDig n 1 = decide (64 ≤ n)) ∧ (isDig n 2 = decide (4096 ≤ n)) ∧ (isDig n 3 = decide (262144 ≤ n)) := by
  refine ⟨by simp [isDig], ?_, ?_, ?_⟩
  · simp only [isDig, show ((1 : Nat) == 0) = false from rfl, Bool.or_false, show (64 : Int) ^ 1 = 64 from by decide]
  · simp only [isDig, show ((2 : Nat) == 0) = false from rfl, Bool.or_false, show (64 : Int) ^ 2 = 4096 from by decide]
  · simp only [isDig, show ((3 : Nat) == 0) = false from rfl, Bool.or_false, show (64 : Int) ^ 3 = 262144 from by decide]
theorem digs_cases (n : Int) : digs n = if 262144 ≤ n then [n / 262144 % 64, n / 4096 % 64, n / 64 % 64, n % 64] else if 4096 ≤ n then [n / 4096 % 64, n / 64 % 64, n % 64] else if 64 ≤ n then [n / 64 % 64, n % 64] else [n % 64] := by
  obtain ⟨h0, h1, h2, h3⟩ := isDig_cases n
  have e0 : n / 64 ^ 0 % 64 = n % 64 := by simp
  have e1 : (64 : Int) ^ 1 = 64 := by decide
  have e2 : (64 : Int) ^ 2 = 4096 := by decide
  have e3 : (64 : Int) ^ 3 = 262144 := by decide
  unfold digs
  by_cases c3 : 262144 ≤ n
  · have c2 : 4096 ≤ n := by lia
    have c1 : 64 ≤ n := by lia
    simp only [List.filter_cons, List.filter_nil, h0, h1, h2, h3, c1, c2, c3, decide_true, if_true, List.map_cons, List.map_nil, e0, e1, e2, e3]
  · by_cases c2 : 4096 ≤ n
    · have c1 : 64 ≤ n := by lia
      simp only [List.filter_cons, List.filter_nil, h0, h1, h2, h3, c1, c2, c3, decide_true, decide_false, if_true, if_false, Bool.false_eq_true, List.map_cons, List.map_nil, e0, e1, e2]
    · by_cases c1 : 64 ≤ n
      · simp only [List.filter_cons, List.filter_nil, h0, h1, h2, h3, c1, c2, c3, decide_true, decide_false, if_true, if_false, Bool.false_eq_true, List.map_cons, List.map_nil, e0, e1]
      · simp only [List.filter_cons, List.filter_nil, h0, h1, h2, h3, c1, c2, c3, decide_true, decide_false, if_true, if_false, Bool.false_eq_true, List.map_cons, List.map_nil, e0]
theorem dg (n : Int) : n / 64 * 64 + n % 64 = n := by lia
theorem dtop {m : Int} (h : 0 ≤ m) (h2 : m < 64) : 0 * 64 + m % 64 = m := by rw [Int.emod_eq_of_lt h h2, Int.zero_mul, Int.zero_add]
theorem dm (n : Int) : 0 ≤ n % 64 ∧ n % 64 < 64 := ⟨Int.emod_nonneg _ (by decide), Int.emod_lt_of_pos _ (by decide)⟩
theorem dq1 (n : Int) : n / 4096 = n / 64 / 64 := by lia
theorem dq2 (n : Int) : n / 262144 = n / 4096 / 64 := by lia
theorem digs_ok (n : Int) (h0 : 0 ≤ n) (h1 : n < 16777216) : valOf (digs n) = n ∧ (∀ x ∈ digs n, 0 ≤ x ∧ x < 64) ∧ digs n ≠ [] ∧ (digs n).length ≤ 4 := by
  rw [digs_cases]
  split
  · refine ⟨?_, fa_cons (dm _) (fa_cons (dm _) (fa_cons (dm _) (fa_cons (dm _) fa_nil))), by simp, by simp⟩
    simp only [valOf, List.foldl_cons, List.foldl_nil]
    rw [dtop (Int.ediv_nonneg h0 (by decide)) (Int.ediv_lt_of_lt_mul (by decide) h1), dq2, dg, dq1, dg, dg]
  · split
    · refine ⟨?_, fa_cons (dm _) (fa_cons (dm _) (fa_cons (dm _) fa_nil)), by simp, by simp⟩
      simp only [valOf, List.foldl_cons, List.foldl_nil]
      rw [dtop (Int.ediv_nonneg h0 (by decide)) (Int.ediv_lt_of_lt_mul (by decide) (Int.not_le.mp ‹_›)), dq1, dg, dg]
    · split
      · refine ⟨?_, fa_cons (dm _) (fa_cons (dm _) fa_nil), by simp, by simp⟩
        simp only [valOf, List.foldl_cons, List.foldl_nil]
        rw [dtop (Int.ediv_nonneg h0 (by decide)) (Int.ediv_lt_of_lt_mul (by decide) (Int.not_le.mp ‹_›)), dg]
      · refine ⟨?_, fa_cons (dm _) fa_nil, by simp, by simp⟩
        simp only [valOf, List.foldl_cons, List.foldl_nil]
        exact dtop h0 (Int.not_le.mp ‹_›)
noncomputable def offs (rs : List (List Int)) (i : Nat) : Nat := ((rs.take i).map List.length).sum
theorem flat_at : ∀ (rs : List (List Int)) (i : Nat) (hi : i < rs.length) (j : Nat), j < rs[i].length → ((rs.map octs).flatten)[offs rs i + j]? = (octs rs[i])[j]?
  | ds :: r, 0, _, j, hj => by
    simp only [offs, List.take_zero, List.map_nil, List.sum_nil, Nat.zero_add, List.map_cons, List.flatten_cons, List.getElem_cons_zero] at hj ⊢
    rw [List.getElem?_append_left (by rw [octs_len]; exact hj)]
  | ds :: r, i + 1, hi, j, hj => by
    have ih := flat_at r i (by simpa using hi) j (by simpa using hj)
    simp only [offs, List.take_succ_cons, List.map_cons, List.sum_cons, List.flatten_cons, List.getElem_cons_succ] at ih ⊢
    rw [Nat.add_assoc, List.getElem?_append_right (by rw [octs_len]; exact Nat.le_add_right _ _), octs_len, Nat.add_sub_cancel_left, ← ih]
theorem offs_succ (rs : List (List Int)) (i : Nat) (hi : i < rs.length) : offs rs (i + 1) = offs rs i + rs[i].length := by
  unfold offs
  rw [List.take_add_one, List.getElem?_eq_getElem hi, List.map_append, List.sum_append]
  simp
theorem offs_all (rs : List (List Int)) : offs rs rs.length = ((rs.map octs).flatten).length := by
  unfold offs
  rw [List.take_length, List.length_flatten, List.map_map]
  congr 1
  exact List.map_congr_left fun ds zz => (octs_len ds).symm
end Mine
end
-- F25
section
namespace Mine
theorem stop_sub : isSubtype (.type "StopIteration") (.type "StopIteration") = pure true := by rw [isSubtype_type]; kernel_rfl
theorem stop_exc : isSubtype (.type "StopIteration") (.type "BaseException") = pure true := by rw [isSubtype_type]; kernel_rfl
theorem stop_ntup : isSubtype (.type ((Manifest.find? "StopIteration").elim "type" fun x => x.metatype)) (.type "tuple") = pure false := by
  rw [show ((Manifest.find? "StopIteration").elim "type" fun x => x.metatype) = "type" from by kernel_rfl, isSubtype_type]; kernel_rfl
theorem subHideR {g h : Heap} {x : Addr} (k : Sub g h) (e : g.get? x = none) : Sub g (h.hide x) := fun b o eb => (Heap.hide_ne h (by rintro rfl; rw [e] at eb; cases eb)).trans (k b o eb)
inductive VarsJ (gs : Array GenState) (it ol : Addr) (ns : List Int) (i : Nat) (m : Str → Option Value) (ys : List Value) : List (Addr × Obj) → Array GenState → Prop
  | mk (o : Obj) (ci : o.cls = .type "list_iterator") (di : o.data = .fields #[.ref ol, .int ((offs (ns.map digs) i : Nat) : Int) 0]) (hS : IntsAre ys (ns.take i)) : VarsJ gs it ol ns i m ys [(it, o)] gs
section
variable {w : World} {A : Around} {E : Value → Shared → Prop} {K : Frag} {mg mb : Str → Option Value} {Q : Value → Shared → Prop} {h g : Heap} {gs : Array GenState} {d : Drawn} {t : Nat} {os : OsState}
set_option maxHeartbeats 2000000 in
theorem read_spec (RK : ReadK K) (G : Gd K mg mb g) (sub : Sub g h) (sz : g.objs.size ≤ h.objs.size) (am : Amb A 10) {eo : Env} {Lo : Addr} {oLo : Obj} (hst : A.frames = some [eo]) (hfr : eo.frame = some Lo) (hko : eo.scope.kind ≠ .module)
    (eLo : h.get? Lo = some oLo) (hnf : ∀ vs, oLo.data ≠ .fields vs) (gLo : g.get? Lo = none) {l c : Addr} {vs : List Value} {ns : List Int} (hl : g.get? l = some (listOf vs.toArray c)) (hI : IntsAre vs ns)
    (hb : ∀ n ∈ ns, 0 ≤ n ∧ n < 16777216) (hz : ns.length ≤ 60)
    (q : ∀ l' h' t' vs' c' sl, Sub g h' → h'.get? Lo = some { oLo with slots := sl } → h.objs.size ≤ l' → h'.get? l' = some (listOf (List.toArray vs') c') → IntsAre vs' ns → Q (.ref l') ⟨h', gs, d, t', os⟩) :
    wpAny (model PW w) A (call (.ref 173) [.ref l] []) Q E ⟨h, gs, d, t, os⟩ := by
  refine call_fnC am.room RK.fn G sub sz (W := [(Lo, oLo)]) ?_ (binds := [("numbers", .ref l)]) (fun pm => BindsTo.of_eq (by kernel_rfl)) ?_
  · intro p hp
    rcases List.mem_cons.mp hp with rfl | hp
    · exact ⟨eLo, gLo⟩
    · cases hp
  intro L h₁ t₁ cells F N CA lx kp hL
  obtain ⟨oC, rfl, hC⟩ := CellsAre.one CA
  have am2 : Amb (A.deeper (rEnv L)) 9 := Amb.deeper (n := 9) (env := rEnv L) am
  have lLo : Lo < L := lx (Lo, oLo) (.head _)
  refine wpAny_execs_cons ?_
  show wpAny _ _ (exec rowsS (rEnv L)) _ _ _
  refine rows_core G (am2.mono (by decide)) F N hl hI (by with_unfolding_all rfl) hb (by lia) ?_
  intro rl rv c₁ tl h₂ t₂ hR F N hrl hap lrl
  wtm_at "go2"
  with_reducible refine nm_B F G RK.nI bb_iter ?_
  wtm_at "go2"
  show wpAny _ _ (eval octE (rEnv L)) _ _ _
  have hdg : ∀ ds ∈ ns.map digs, 1 ≤ ds.length ∧ ds.length ≤ 4 := by
    intro ds hds
    obtain ⟨n, hn, rfl⟩ := List.mem_map.mp hds
    have := digs_ok n (hb n hn).1 (hb n hn).2
    exact ⟨List.length_pos_iff.mpr this.2.2.1, this.2.2.2⟩
  refine oct_core (am2.mono (by decide)) F N (.head _) (hR.mono fun a o x => .tail _ (List.mem_append_left _ x)) (by with_unfolding_all rfl) hdg (by rw [List.length_map]; lia) ?_
  intro ol ov c₂ h₄ t₄ hO F N hol lol
  wtm_at "go2"
  have eol := n0 N
  refine call_iter_list F N (isL eol) ?_
  intro it h₅ F N lit k5
  have hltI : ∀ p ∈ (ol, listOf ov.toArray c₂) :: (rl, listOf rv.toArray c₁) :: (Lo, oLo) :: tl, p.1 < it := fun p hp => lit p (by
    rcases List.mem_cons.mp hp with rfl | hp
    · wtm_at "mm"
    rcases List.mem_cons.mp hp with rfl | hp
    · wtm_at "mm"
    rcases List.mem_cons.mp hp with rfl | hp
    · exact .tail _ (.tail _ (List.mem_append_right _ (.tail _ (.head _))))
    · exact .tail _ (.tail _ (List.mem_append_left _ hp)))
  have N := News.sub (l' := (L + 1, oC) :: (it, listIt ol 0) :: (ol, listOf ov.toArray c₂) :: (rl, listOf rv.toArray c₁) :: (Lo, oLo) :: tl) N (by
    refine pm_cons (.tail _ (.tail _ (.tail _ (List.mem_append_right _ (.head _))))) (pm_cons (.head _) (pm_cons (by wtm_at "mm") (pm_cons (by wtm_at "mm") (pm_cons (.tail _ (.tail _ (.tail _ (List.mem_append_right _ (.tail _ (.head _)))))) ?_))))
    exact pm_tail (pm_tail (pm_tail (pm_left pm_id))))
  have c1 : L + 1 ≠ it := Nat.ne_of_lt (lit (L + 1, oC) (.tail _ (.tail _ (List.mem_append_right _ (.head _)))))
  have c2 : L + 1 ≠ ol := hol (L + 1, oC) (.tail _ (List.mem_append_right _ (.head _)))
  have c3 : L + 1 ≠ rl := hrl (L + 1, oC) (List.mem_append_right _ (.head _))
  have c4 : Lo ≠ L + 1 := Nat.ne_of_lt (Nat.lt_succ_of_lt lLo)
  have c5 : ∀ p ∈ tl, p.1 ≠ L + 1 := fun p hp => hap p hp (L + 1, oC) (.head _)
  refine r_stC F N (ne_cons (Ne.symm c1) (ne_cons (Ne.symm c2) (ne_cons (Ne.symm c3) (ne_cons c4 c5)))) hC ?_
  intro h₆ oC' F N hC'
  wtm_at "go2"
  refine x_AssLC ?_
  wtm_at "go2"
  have erl := n3 N
  with_reducible refine r_iterList F N (isL erl) ?_
  intro ir h₇ F N lir k7
  have lio : it < ir := lir (it, _) (by wtm_at "mm")
  have hlv := Rws.length hR
  rw [List.length_map] at hlv
  have N := News.sub (l' := (ir, listIt rl 0) :: ([(it, listIt ol 0)] ++ ((L + 1, oC') :: (ol, listOf ov.toArray c₂) :: (rl, listOf rv.toArray c₁) :: (Lo, oLo) :: tl))) N (by
    refine pm_cons (by wtm_at "mm") (pm_cons (by wtm_at "mm") (pm_cons (by wtm_at "mm") (pm_cons (by wtm_at "mm") (pm_cons (by wtm_at "mm") (pm_cons (by wtm_at "mm") ?_)))))
    exact pm_tail (pm_tail (pm_tail (pm_tail (pm_tail (pm_tail pm_id))))))
  have hrsl : (ns.map digs).length = ns.length := List.length_map ..
  have git : g.get? it = none := (N (it, listIt ol 0) (by wtm_at "mm")).2.2
  refine r_compForM (mu := [(it, listIt ol 0)]) (Iter.list rl rv.toArray) am2.hd F N ?_ ?_ ⟨rfl, rfl⟩
    (VarsJ gs it ol ns) ⟨_, rfl, rfl, .nil⟩ ?_ ?_
  · exact fun p hp => Nat.ne_of_lt (lir p (by
      rcases List.mem_append.mp hp with hp | hp
      · rw [List.mem_singleton.mp hp]; wtm_at "mm"
      · rcases List.mem_cons.mp hp with rfl | hp
        · wtm_at "mm"
        · exact .tail _ (.tail _ hp)))
  · intro p hp p' hp'
    rw [List.mem_singleton.mp hp]
    rcases List.mem_cons.mp hp' with rfl | hp'
    · exact Ne.symm c1
    · exact Nat.ne_of_gt (hltI p' hp')
  · intro g' acc D sg' kN nsL hsz
    have e1 := kN (rl, listOf rv.toArray c₁) (by wtm_at "mm")
    have e2 := kN (ol, listOf ov.toArray c₂) (by wtm_at "mm")
    have e3 := kN (L + 1, oC') (.head _)
    refine ⟨fun zz zz zz zz zz h' zz k zz => isL (k _ _ e1), ?_⟩
    intro i m ys c news' gs' h t o v hi zq11 hv hIt F N hne hna
    obtain ⟨oi, ci, di, hS⟩ := zq11
    have hi' : i < ns.length := by rw [List.size_toArray] at hi; lia
    obtain ⟨a, vals, ca, ds, rfl, ha, hV, hds⟩ := hR.get (show rv[i]? = some v by simpa using hv)
    have hdsn : ds = digs ns[i] := by
      rw [List.getElem?_map, List.getElem?_eq_getElem hi'] at hds
      exact (Option.some.inj hds).symm
    have hnb := hb ns[i] (List.getElem_mem hi')
    obtain ⟨d1, d2, d3, d4⟩ := digs_ok ns[i] hnb.1 hnb.2
    refine wpAny_pure ?_
    wtm_at "go2"
    wtm_at "sts"
    intro h8 F N
    refine tests_nil ?_
    rw [if_pos rfl]
    refine r_emit rfl ?_
    have G' := G.keeps sg'
    wtm_at "go2"
    with_reducible refine nm_K F G' RK.nV ?_
    wtm_at "go2"
    with_reducible refine nm_C (F.keep _ _ e3) hC' ?_
    wtm_at "go2"
    refine ⟨Kp.fnK RK.vi (G'.X.keeps F.keep), ?_⟩
    have zi := N (it, oi) (by wtm_at "mm")
    have hri : (ns.map digs)[i]'(by rw [hrsl]; exact hi') = digs ns[i] := by simp
    refine varint_spec RK.vi RK.nN (G'.keeps (subHideR F.keep zi.2.2)) (am2.mono (by decide)) ⟨oi, zi.1, ci, di⟩ (F.keep _ _ e2) hO d3 d2 d4 ?_ ?_
    · intro j hj
      have := flat_at (ns.map digs) i (by rw [hrsl]; exact hi') j (by rw [hri]; exact hj)
      rw [hri] at this
      exact this
    intro h9 t9 u9 k9 zq1
    obtain ⟨o9, i9, c9, dd9⟩ := zq1
    have e9 := of_hide' k9
    have F : Fr g' D h9 _ := Fr.ext F zi.2.1 zi.2.2 e9
    have hai : acc ≠ ir := hne (acc, listOf ys.toArray c) (.head _)
    have hia : it ≠ ir := hne (it, oi) (.tail _ (.head _))
    have hca : it ≠ acc := hna (it, oi) (.head _)
    have N : News g' D h9 ((acc, listOf ys.toArray c) :: (ir, o) :: (it, o9) :: []) := by
      intro p hp
      rcases List.mem_cons.mp hp with rfl | hp
      · have z := N (acc, listOf ys.toArray c) (by wtm_at "mm"); exact ⟨e9 _ _ (Ne.symm hca) z.1, z.2⟩
      rcases List.mem_cons.mp hp with rfl | hp
      · have z := N (ir, o) (by wtm_at "mm"); exact ⟨e9 _ _ (Ne.symm hia) z.1, z.2⟩
      rw [List.mem_singleton.mp hp]
      exact ⟨i9, zi.2⟩
    have hlen := IntsAre.length hS
    with_reducible refine r_append F N ?_ ?_ ?_
    · exact ne_cons (Ne.symm hai) (ne_cons hca ne_nil)
    · rw [List.size_toArray, hlen, sizeLine_eq, List.length_take]; lia
    intro h10 F N hsz10
    rw [List.push_toArray] at N
    refine cnext F (News.sub (l' := (ir, o) :: (acc, listOf (List.toArray _) _) :: (it, o9) :: []) N (by wtm_at "prm")) ?_ ?_ ⟨o9, c9, ?_, ?_⟩
    · exact ne_cons hai (ne_cons hia ne_nil)
    · exact ne_cons hca ne_nil
    · rw [dd9, offs_succ _ _ (by rw [hrsl]; exact hi'), hri]
    · rw [List.take_add_one, List.getElem?_eq_getElem hi', d1]
      exact IntsAre.snoc' hS _ _
  · intro tol tv ct news' h8 gs' t8 m' zq8 F N hna hap2 htol
    obtain ⟨oi, ci, di, hS⟩ := zq8
    rw [List.size_toArray, hlv] at hS di
    rw [List.take_length] at hS
    have hoff := offs_all (ns.map digs)
    rw [hrsl] at hoff
    have hovl := IntsAre.length hO
    rw [hoff, ← hovl] at di
    have F : Fr g L h8 (fun y => if y = "told" then some (.ref tol) else if y = "rows" then some (.ref rl) else bindL (rEnv L).kindOf [("numbers", .ref l)] (fun zz => none) y) := F
    have N := News.sub (l' := (tol, listOf tv.toArray ct) :: (it, oi) :: (L + 1, oC') :: (ol, listOf ov.toArray c₂) :: (Lo, oLo) :: []) N (by wtm_at "prm")
    have gL : g.get? L = none := none_of_size F.above
    have hgB : ∀ a ∈ [L, it, Lo], g.get? a = none := by
      exact fa_cons (gL) (fa_cons (git) (fa_cons (gLo) fa_nil))
    have sgB : Sub g (hides h8 [L, it, Lo]) := subHides F.keep hgB
    have L7 : L < h₇.objs.size := Fr.lt ‹Fr g L h₇ _›
    have ltol : L < tol := Nat.lt_of_lt_of_le L7 htol
    have n1' : ol ∉ [L, it, Lo] := by
      intro hm
      simp only [List.mem_cons, List.not_mem_nil, or_false] at hm
      rcases hm with e | e | e
      · exact (N (ol, listOf ov.toArray c₂) (by wtm_at "mm")).2.1 e
      · exact absurd (hltI (ol, _) (.head _)) (by rw [← e]; exact Nat.lt_irrefl _)
      · exact absurd lLo (by rw [← e]; exact Nat.lt_asymm lol)
    have n2' : tol ∉ [L, it, Lo] := by
      intro hm
      simp only [List.mem_cons, List.not_mem_nil, or_false] at hm
      rcases hm with e | e | e
      · rw [e] at ltol; exact Nat.lt_irrefl _ ltol
      · exact hna (it, oi) (.head _) e.symm
      · rw [e] at ltol; exact Nat.lt_asymm ltol lLo
    refine wpAny_execs_cons ?_
    refine wpAny_Try_except ?_
    wtm_at "go2"
    with_reducible refine r_listMeth (n0 N) PySem.F.slot_list_append PySem.F.type_list_append ?_
    wtm_at "go2"
    with_reducible refine nm_K F G RK.nV ?_
    wtm_at "go2"
    with_reducible refine nm_C (n2 N) hC' ?_
    wtm_at "go2"
    refine ⟨Kp.fnK RK.vi (G.X.keeps F.keep), ?_⟩
    have eLo8 := n4 N
    have hfs : h8.FunFrames (hides h8 [L, it, Lo]) [rEnv L, eo] :=
      .cons (show s_read.kind ≠ .module by decide) rfl F.ns (hides_in (.head _)) ⟨hko, ⟨Lo, oLo, hfr, hides_in (by simp), eLo8, hnf⟩, trivial⟩
    refine varint_stop RK.vi RK.nN (G.keeps sgB) hidesSub (Nat.le_of_eq hides_size) (am2.mono (by decide)) (Around.frames_deeper hst) hfs (it := it) (l := ol) ⟨oi, n1 N, ci, di⟩ (hides_in (by simp)) (hides_get (n3 N) n1') ?_
    intro e a0 h9 t9 hfl9 u9
    refine wpAny_looks_onW (Around.frames_deeper hst) rfl hfl9 fun h10 hh10 u10 => ?_
    refine wpAny_landsW hh10 fun h11 hfl11 u11 => ?_
    have F11 : Fr g L h11 _ := Fr.of_stays F (fun b o eb => hfl11.1 _ _ (sgB b o eb)) (u9.trans (u10.trans u11))
    obtain ⟨ob, hob, hobc⟩ := hfl11.there
    refine wpAny_handleBy_builtin (X := "StopIteration") (T := "StopIteration") (b := true) stop_exc stop_ntup stop_sub ?_
    with_reducible refine nm_B F11 G RK.nS bb_StopIteration ?_
    refine ⟨rfl, ⟨ob, hob, hobc⟩, ?_⟩
    rw [if_pos rfl]
    refine lands_againW hfl11 fun h12 hfl12 u12 => ?_
    have F12 : Fr g L h12 _ := Fr.of_stays F (fun b o eb => hfl12.1 _ _ (sgB b o eb)) (u9.trans (u10.trans (u11.trans u12)))
    wtm_at "go2"
    obtain ⟨sl, esl⟩ := (u9.trans (u10.trans (u11.trans u12))) Lo oLo eLo8 hnf
    exact q tol h12 _ tv ct sl F12.keep esl (Nat.le_trans hL (Nat.le_of_lt ltol)) (hfl12.1 _ _ (hides_get (n0 N) n2')) hS
end
end Mine
end
-- F7
section
namespace Mine
section
variable {w : World} {A : Around} {E : Value → Shared → Prop} {K : Frag} {mg mb : Str → Option Value} {Q : Value → Shared → Prop} {h : Heap} {gs : Array GenState} {d : Drawn} {t : Nat} {os : OsState} {x dx : Addr} {n : Nat} {od : Obj} {v : Value}
theorem reset_spec (MK : MthK K) (G : Gd K mg mb ((h.hide x).hide dx)) (am : Amb A 3) {l new : List Value} {a : Addr} {c : Nat} (I : Acc h x dx l.toArray n od) (hi : IniD od v) (ha : h.get? a = some (listOf new.toArray c)) (hz : l.length + new.length ≤ sizeLine)
    (q : ∀ h' t' n' od' u, Sub ((h.hide x).hide dx) h' → h'.get? x = some (accO dx new.toArray n') → h'.get? dx = some od' → IniD od' (.int 0 u) → Q .none ⟨h', gs, d, t', os⟩) :
    wpAny (model PW w) A (call (.ref 146) [.ref x, .ref a] []) Q E ⟨h, gs, d, t, os⟩ := by
  have hxd : dx ≠ x := ne_of_get I.dict I.at_ (by obtain ⟨_, _, _, rfl⟩ := hi; intro e; cases e)
  have hax : a ≠ x := ne_of_get ha I.at_ (by intro e; cases e)
  have had : a ≠ dx := ne_of_get ha I.dict (by obtain ⟨_, _, _, rfl⟩ := hi; intro e; have e2 := congrArg Obj.data e; cases e2)
  have ha' : ((h.hide x).hide dx).get? a = some (listOf new.toArray c) := (Heap.hide_ne _ had).trans ((Heap.hide_ne h hax).trans ha)
  have sub : Sub ((h.hide x).hide dx) h := fun b o e => hideSub h x _ _ (hideSub (h.hide x) dx _ _ e)
  have gx : ((h.hide x).hide dx).get? x = none := (Heap.hide_ne _ (Ne.symm hxd)).trans (Heap.hide_self h x)
  have gd : ((h.hide x).hide dx).get? dx = none := Heap.hide_self _ _
  refine call_fn am.room MK.reset G sub (Nat.le_of_eq (by rw [Heap.hide_size, Heap.hide_size])) (W := [(x, accO dx l.toArray n), (dx, od)]) ?_ (binds := [("self", .ref x), ("startval", .ref a)]) (fun pm => MK.bd_reset _ _ _ pm (G.X.keeps sub)) ?_
  · intro p hp
    rcases List.mem_cons.mp hp with rfl | hp
    · exact ⟨I.at_, gx⟩
    · rcases List.mem_cons.mp hp with rfl | hp
      · exact ⟨I.dict, gd⟩
      · cases hp
  intro L h₁ t₁ F N lx kp hL
  refine wpAny_execs_cons ?_
  wtm_at "go2"
  refine is_ref_none ?_
  wtm_at "go2"
  rw [if_neg (by decide)]
  wtm_at "go2"
  refine wpAny_Assign_Subscript ?_ (by with_unfolding_all rfl)
  wtm_at "go2"
  with_reducible refine x_Slice (part_none ?_)
  with_reducible refine part_none ?_
  refine r_slice F N ?_
  intro sl h₂ F₂ N₂ l1 k2 _
  have hxs := Nat.ne_of_gt (l1 (x, accO dx l.toArray n) (by wtm_at "mm"))
  have hds := Nat.ne_of_gt (l1 (dx, od) (by wtm_at "mm"))
  have N₃ := News.sub (l' := (x, accO dx l.toArray n) :: (sl, sliceO .none .none) :: (dx, od) :: []) N₂ (by wtm_at "prm")
  refine r_setslice (G.X.keeps F₂.keep) MK.cls ⟨n0 N₃, n2 N₃⟩ F₂ N₃ ?_ (.head _) .none .none (F₂.keep _ _ ha') (by simpa using hz) (by rw [splice_all, List.size_toArray]; lia) ?_
  · exact ne_cons hxs (ne_cons hxd ne_nil)
  intro h₄ n' F₄ N₄ hsb
  rw [splice_all] at N₄
  wtm_at "go2"
  refine plainObj_wpAny_Assign_Attribute ?_ (by with_unfolding_all rfl)
  wtm_at "go2"
  have N₅ := News.sub (l' := (dx, od) :: (x, accO dx new.toArray n') :: []) N₄ (by wtm_at "prm")
  refine acc_set1 (G.X.keeps F₄.keep) MK.cls MK.taker F₄ hi N₅ ?_ (n1 N₅) ?_
  · exact ne_cons (Ne.symm hxd) ne_nil
  intro h₆ od' hi' F₆ N₆
  wtm_at "go2"
  exact q h₆ _ n' od' _ F₆.keep (n1 N₆) (n0 N₆) hi'
end
end Mine
end
-- F2
section
namespace Mine
noncomputable def blankOf (i : Nat) : Str := if i % 2 = 0 then "" else " "
noncomputable def letOf (row i : Nat) : Str := ⟨#[(if row = 0 then 97 else 65) + i]⟩
noncomputable def piecesOf (row n : Nat) : List (Str × Str) := (List.range n).map fun i => (blankOf i, letOf row i)
theorem piecesOf_succ (row n : Nat) : piecesOf row (n + 1) = piecesOf row n ++ [(blankOf n, letOf row n)] := by simp [piecesOf, List.range_succ]
inductive Pcs (O : Addr → Obj → Prop) : List Value → List (Str × Str) → Prop
  | nil : Pcs O [] []
  | cons (a : Addr) (x y : Str) (t u : Tok) {vs ps} : O a (tupO [.str x t, .str y u]) → Pcs O vs ps → Pcs O (.ref a :: vs) ((x, y) :: ps)
theorem Pcs.mono {O O' : Addr → Obj → Prop} (k : ∀ a o, O a o → O' a o) {vs ps} (p : Pcs O vs ps) : Pcs O' vs ps := by
  induction p with
  | nil => exact .nil
  | cons a x y t u h _ ih => exact .cons a x y t u (k _ _ h) ih
theorem Pcs.append {O : Addr → Obj → Prop} {vs ps vs' ps'} (p : Pcs O vs ps) (p' : Pcs O vs' ps') : Pcs O (vs ++ vs') (ps ++ ps') := by
  induction p with
  | nil => exact p'
  | cons a x y t u h _ ih => exact .cons a x y t u h ih
theorem Pcs.length {O : Addr → Obj → Prop} {vs ps} (p : Pcs O vs ps) : vs.length = ps.length := by
  induction p with
  | nil => rfl
  | cons a x y t u h _ ih => simp [ih]
section
variable {w : World} {A : Around} {E : Value → Shared → Prop} {K : Frag} {g : Heap} {mg mb : Str → Option Value} {Q : Value → Shared → Prop} {h : Heap} {gs : Array GenState} {d : Drawn} {t : Nat} {os : OsState}
theorem pieces_spec (KF : FnK K 190 "_law_pieces" "_law_pieces" a_pieces b_pieces s_pieces [] .none .none 189 .none) (nR : nsIn K mainGlobals "range" = some none) (G : Gd K mg mb g) (sub : Sub g h) (sz : g.objs.size ≤ h.objs.size)
    (am : Amb A 3) (row : Nat) (hr : row < 2) (n : Nat) (hn : n ≤ 9) (t1 t2 : Tok)
    (q : ∀ l h' t' vs c, Sub g h' → g.get? l = none → h.objs.size ≤ l → h'.get? l = some (listOf (List.toArray vs) c) → Pcs (fun a o => h'.get? a = some o ∧ g.get? a = none) vs (piecesOf row n) → Q (.ref l) ⟨h', gs, d, t', os⟩) :
    wpAny (model PW w) A (call (.ref 190) [.int row t1, .int n t2] []) Q E ⟨h, gs, d, t, os⟩ := by
  refine call_fnC am.room KF G sub sz (W := []) (by simp) (binds := [("row", .int row t1), ("size", .int n t2)]) (fun pm => BindsTo.of_eq (by kernel_rfl)) ?_
  intro L h₁ t₁ cells F N CA _ kp hL
  have F0 := Fr.lt F
  obtain ⟨oC, rfl, hC⟩ := CellsAre.one CA
  refine wpAny_execs_cons ?_
  wtm_at "go"
  with_reducible refine x_LC ?_
  wtm_at "go"
  with_reducible refine nm_B F G nR bb_range ?_
  wtm_at "go"
  with_reducible refine r_range1 F N ?_
  intro r h₄ t' u' v' F N lr tk
  with_reducible refine' r_iterRange n F N (N.get ?a) ?b ?c ?e ?_
  case a => exact .head _
  case b => lia
  case c => lia
  case e => lia
  intro it h₅ F N lit
  refine r_compFor (Iter.range 0 n) (Amb.deeper (n := 2) am).hd F N ?_ rfl (fun i m ys news gs' => gs' = gs ∧ Pcs (fun a o => (a, o) ∈ news) ys (piecesOf row i)) ⟨rfl, .nil⟩ ?_ ?_
  · intro p hp; exact Nat.ne_of_lt (lit p hp)
  · intro g' acc D sg' kN nsL hsz
    refine ⟨fun zz zz => trivial, ?_⟩
    intro i m ys c news gs' h t o v hi zq11 zq12 _ F N hne hna
    obtain ⟨rfl, hP⟩ := zq11
    obtain ⟨ti, rfl⟩ := zq12
    refine wpAny_pure ?_
    wtm_at "go"
    wtm_at "sts"
    intro h₇ F N
    refine tests_nil ?_
    rw [if_pos rfl]
    refine r_emit rfl ?_
    wtm_at "go"
    with_reducible refine r_mod ?_ ?_
    · decide
    with_reducible refine r_mulS ?_ ?_ ?_
    · lia
    · lia
    intro tb kb
    have eb : (if (0 + (i : Int)) % 2 = 0 then Str.empty else (" " : Str)) = blankOf i := by
      unfold blankOf
      by_cases h2 : i % 2 = 0
      · rw [if_pos h2, if_pos (by lia)]; rfl
      · rw [if_neg h2, if_neg (by lia)]
    rw [eb]
    wtm_at "go"
    with_reducible refine r_newList F N ?_
    intro pr h₈ F N l1 l2
    have hrow : h₈.get? (L + 1) = some oC := F.keep _ _ (kN (L + 1, oC) (by simp))
    have hrow' : oC.data = .cell (some (.int row t1)) := hC.trans (by with_unfolding_all rfl)
    wtm_at "go2"
    with_reducible refine' nm_C hrow hrow' ?_
    have e2 : ∃ s : Str, (([.str "abcdefghi" kb, .str "ABCDEFGHI" (kb + 1)] : List Value).toArray)[(row : Int).toNat]? = some (.str s (if row = 0 then kb else kb + 1)) ∧ s.cps[(0 + (i : Int)).toNat]? = some ((if row = 0 then 97 else 65) + i) := by
      have e3 : (0 + (i : Int)).toNat = i := zt0
      rw [e3]
      have hi9 : i < 9 := by lia
      have hr2 : row = 0 ∨ row = 1 := by lia
      rcases hr2 with rfl | rfl
      · refine ⟨_, rfl, ?_⟩
        have : ∀ i, i < 9 → (Str.ofString "abcdefghi").cps[i]? = some (97 + i) := by decide +kernel
        exact this i hi9
      · refine ⟨_, rfl, ?_⟩
        have : ∀ i, i < 9 → (Str.ofString "ABCDEFGHI").cps[i]? = some (65 + i) := by decide +kernel
        exact this i hi9
    obtain ⟨sx, e2, e3⟩ := e2
    with_reducible refine r_subL (n0 N) ?_ ?_ e2 ?_
    · lia
    · lia
    wtm_at "go2"
    with_reducible refine r_subS ?_ ?_ e3 ?_
    · lia
    · lia
    wtm_at "go2"
    with_reducible refine r_newTuple F N ?_
    intro pt h₉ F N l3 l4
    have N2 := News.sub (l' := (acc, listOf ys.toArray c) :: (it, o) :: (pt, tupO [.str (blankOf i) tb, .str (letOf row i) (kb + 1 + 1)]) :: news) N (by wtm_at "prm")
    have hys := Pcs.length hP
    with_reducible refine r_append F N2 ?_ ?_ ?_
    · exact ne_cons (Ne.symm (hne _ (.head _))) (ne_cons (Nat.ne_of_gt (l3 (acc, listOf ys.toArray c) (by wtm_at "mm"))) hna)
    · rw [List.size_toArray, hys, sizeLine_eq]; simp [piecesOf]; lia
    intro h10 F N hsz'
    rw [List.push_toArray] at N
    refine cnext F (News.sub (l' := (it, o) :: (acc, listOf (List.toArray _) _) :: (pt, tupO [.str (blankOf i) tb, .str (letOf row i) (kb + 1 + 1)]) :: news) N (by wtm_at "prm")) ?_ ?_ ?_
    · exact ne_cons (hne (acc, listOf ys.toArray c) (.head _)) (ne_cons (Nat.ne_of_gt (l3 (it, o) (by wtm_at "mm"))) fun p hp => hne p (.tail _ hp))
    · exact ne_cons (Nat.ne_of_gt (l3 (acc, listOf ys.toArray c) (by wtm_at "mm"))) hna
    refine ⟨rfl, ?_⟩
    · rw [piecesOf_succ]
      exact Pcs.append (hP.mono fun a o x => .tail _ x) (.cons pt _ _ _ _ (.head _) .nil)
  · intro acc ys c news' h'' gs' t'' m' zq8 F N hna hap hacc
    obtain ⟨rfl, hP⟩ := zq8
    have hL5 := Fr.lt ‹Fr g L h₅ _›
    wtm_at "go"
    refine q acc h'' _ ys c F.keep (N _ (.head _)).2.2 ?_ (n0 N) ?_
    · exact Nat.le_trans hL (Nat.le_trans (Nat.le_of_lt hL5) hacc)
    · exact hP.mono fun a o x => ⟨(N _ (.tail _ (List.mem_append_left _ x))).1, (N _ (.tail _ (List.mem_append_left _ x))).2.2⟩
end
end Mine
end
-- F8
section
namespace Mine
inductive PileJ (gs : Array GenState) (x dx : Addr) (od : Obj) (ps : List (Str × Str)) (i : Nat) (m : Str → Option Value) : List (Addr × Obj) → Array GenState → Prop
  | mk (hm : m "pile" = some (.ref x)) (n : Nat) (us : List Value) (tl : List (Addr × Obj)) (htl : ∀ p ∈ tl, p.1 ≠ x) (hU : Pcs (fun a o => (a, o) ∈ tl) us (ps.take i)) : PileJ gs x dx od ps i m ((x, accO dx us.toArray n) :: (dx, od) :: tl) gs
section
variable {w : World} {A : Around} {E : Value → Shared → Prop} {K : Frag} {mg mb : Str → Option Value} {Q : Value → Shared → Prop} {h : Heap} {gs : Array GenState} {d : Drawn} {t : Nat} {os : OsState} {v : Value}
theorem Pcs.get {O : Addr → Obj → Prop} {vs : List Value} {ps : List (Str × Str)} (p : Pcs O vs ps) {i : Nat} {v : Value} (hv : vs[i]? = some v) : ∃ a x y t u, v = .ref a ∧ O a (tupO [.str x t, .str y u]) ∧ ps[i]? = some (x, y) := by
  induction p generalizing i with
  | nil => simp at hv
  | cons a x y t u ho _ ih =>
    cases i with
    | zero => simp at hv; exact ⟨a, x, y, t, u, hv.symm, ho, rfl⟩
    | succ i => simp at hv; simpa using ih hv
theorem subHide {g h : Heap} {x : Addr} (k : Sub g h) (e : g.get? x = none) : Sub g (h.hide x) := fun b o eb => (Heap.hide_ne h (by rintro rfl; rw [e] at eb; cases eb)).trans (k b o eb)
theorem Kp.cls {M : Model} {h : Heap} (Y : NewK K) (X : K.In h) : Kp M h (.ref 164) := by
  refine ⟨.machine, .inr (.inl rfl), fun A Q E s k q => ?_⟩
  obtain ⟨oc, od, cd, sl, hC, -⟩ := Y.obj
  have call := looks_specialIn (M := M) X Y.call
  unfold keeperOf
  refine wpAny_bind (wpAny_load (k _ _ (X _ _ hC)) ?_)
  dsimp only
  refine wpAny_bind ((call.keeps k).here (wpAny_pure ?_))
  exact q
theorem pile_spec (MK : MthK K) (KF : FnK K 197 "_law_pile" "_law_pile" a_pile b_pile s_pile [] .none .none 196 .none) (nA : nsIn K mainGlobals "_Accumulator" = some (some (.ref 164))) (G : Gd K mg mb h) (am : Amb A 6) {vs : List Value} {ps : List (Str × Str)} {l : Addr} {c : Nat}
    (hl : h.get? l = some (listOf vs.toArray c)) (hP : Pcs (fun a o => h.get? a = some o) vs ps) (hz : vs.length < sizeLine)
    (q : ∀ x dx h' t' n od us, Sub h h' → h.objs.size ≤ x → h.objs.size ≤ dx → Acc h' x dx us.toArray n od → IniD od v → Pcs (fun a o => h'.get? a = some o ∧ h.get? a = none) us ps → Q (.ref x) ⟨h', gs, d, t', os⟩) :
    wpAny (model PW w) A (call (.ref 197) [v, .ref l] []) Q E ⟨h, gs, d, t, os⟩ := by
  refine call_fn am.room KF G (fun zz zz e => e) (Nat.le_refl _) (W := []) (by simp) (binds := [("head", v), ("pieces", .ref l)]) (fun pm => BindsTo.of_eq (by kernel_rfl)) ?_
  intro L h₁ t₁ F N lx kp hL
  have am2 := Amb.deeper (n := 5) (env := envX "_law_pile" s_pile L 197 (.ref 196) []) am
  refine wpAny_execs_cons ?_
  wtm_at "go2"
  with_reducible refine nm_K F G nA ?_
  wtm_at "go2"
  refine ⟨Kp.cls MK.new (G.X.keeps F.keep), ?_⟩
  refine new_spec MK (G.keeps F.keep) am2 ?_
  intro x dx od h₂ n t₂ k2 lx1 lx2 I hi
  have F₂ := Fr.sub F k2
  have lx3 : L < x := Nat.lt_of_lt_of_le (Fr.lt F) lx2
  have lx4 : L < dx := Nat.lt_of_lt_of_le (Fr.lt F) lx1
  have gx : h.get? x = none := none_of_size (Nat.le_trans hL (Nat.le_of_lt lx3))
  have gd : h.get? dx = none := none_of_size (Nat.le_trans hL (Nat.le_of_lt lx4))
  have N₂ : News h L h₂ [(x, accO dx #[] n), (dx, od)] := fun p hp => by
    rcases List.mem_cons.mp hp with rfl | hp
    · exact ⟨I.at_, Nat.ne_of_gt lx3, gx⟩
    · rcases List.mem_cons.mp hp with rfl | hp
      · exact ⟨I.dict, Nat.ne_of_gt lx4, gd⟩
      · cases hp
  wtm_at "sts"
  intro h₃ F₃ N₃
  wtm_at "go2"
  with_reducible refine r_iterList F₃ N₃ (isL (F₃.keep _ _ hl)) ?_
  intro it h₄ F₄ N₄ lit k4
  have hxd : dx ≠ x := ne_of_get I.dict I.at_ (by obtain ⟨_, _, _, rfl⟩ := hi; intro e; cases e)
  refine loop_for (Iter.list l vs.toArray) am2.hd (PileJ gs x dx od ps)
    ?_ ?_ ?_ ⟨by with_unfolding_all rfl, n, [], [], (fun zz hp => nomatch hp), .nil⟩ F₄ N₄ (lt_ne lit) ⟨rfl, rfl⟩
  · rintro i m news gs' h j F -
    exact isL (F.keep _ _ hl)
  · intro i m news gs' h₅ t₅ o v' hi' zq9 hv hI F N hne
    obtain ⟨hm, n, us, tl, htl, hU⟩ := zq9
    obtain ⟨a, s1, s2, u1, u2, rfl, ha, hps⟩ := hP.get (by simpa using hv)
    refine wpAny_letOwnedTupleGo_listiter (l := l) (i := i + 1) ⟨_, n0 N, hI⟩ ?_
    refine r_asTup am2.hd F N (F.keep _ _ ha) ?_
    intro h₆ F N k6
    refine x_ord ?_
    wtm_at "sts"
    intro h₇ F N
    refine x_ord ?_
    wtm_at "sts"
    intro h₈ F N
    refine x_ord0 ?_
    wtm_at "go2"
    have ho := n0 N
    have hx := n1 N
    have hd := n2 N
    have hxL := (N _ (.tail _ (.head _))).2.1
    have hus : us.length = i := by have := Pcs.length hU; rw [List.length_take] at this; have h2 := Pcs.length hP; rw [List.size_toArray] at hi'; lia
    refine r_meth (G.X.keeps F.keep) MK.cls ⟨hx, hd⟩ MK.f_push.1 (.inl MK.f_push.2) (hi.miss (by decide +kernel)) ?_
    wtm_at "go2"
    refine ⟨Kp.fnK MK.push (G.X.keeps F.keep), ?_⟩
    refine push_spec MK (G.keeps (subHide F.keep gx)) (am2.mono (by decide)) ⟨hx, hd⟩ hi (by rw [List.size_toArray] at hi'; lia) ?_
    intro a' h₉ t₉ n' k9 la ea ex
    have e9 := of_hide' k9
    have F₉ := Fr.ext F hxL gx e9
    have hit : it ≠ x := Ne.symm (hne (x, accO dx us.toArray n) (.head _))
    have N₉ : News h L h₉ ((it, o) :: (x, accO dx (us ++ [Value.ref a']).toArray n') :: (dx, od) :: (a', tupO [.str s1 u1, .str s2 u2]) :: tl) :=
      News.cons (News.cons (News.cons (News.cons (fun p hp => ⟨e9 _ _ (htl p hp) (N p (.tail _ (.tail _ (.tail _ hp)))).1, (N p (.tail _ (.tail _ (.tail _ hp)))).2⟩)
        ea (Nat.ne_of_gt (Nat.lt_of_lt_of_le (Fr.lt F) la)) (none_of_size (Nat.le_trans (Nat.le_trans hL (Nat.le_of_lt (Fr.lt F))) la)))
        (e9 _ _ hxd hd) (N (dx, od) (by wtm_at "mm")).2.1 (N (dx, od) (by wtm_at "mm")).2.2) ex hxL gx) (e9 _ _ hit ho) (N _ (.head _)).2.1 (N _ (.head _)).2.2
    have lt8 : ∀ b ob, h₈.get? b = some ob → b ≠ a' := fun b ob e => Nat.ne_of_lt (Nat.lt_of_lt_of_le (Heap.lt_size e) la)
    wtm_at "go2"
    refine ⟨_, _, _, _, _, F₉, N₉, ?_, ?_, n', _, (a', tupO [.str s1 u1, .str s2 u2]) :: tl, ?_, ?_⟩
    · exact ne_cons (Ne.symm hit) (ne_cons (hne (dx, od) (by wtm_at "mm")) (ne_cons (Ne.symm (lt8 _ _ ho)) fun p hp => hne p (.tail _ (.tail _ hp))))
    · exact hm
    · exact ne_cons (Ne.symm (lt8 _ _ hx)) htl
    · rw [List.take_succ, hps]
      exact Pcs.append (hU.mono fun a o x => .tail _ x) (.cons a' _ _ _ _ (.head _) .nil)
  · intro m news gs' h₅ t₅ zq5 F N
    obtain ⟨hm, n, us, tl, htl, hU⟩ := zq5
    wtm_at "go2"
    rw [List.size_toArray, Pcs.length hP, List.take_length] at hU
    refine q x dx h₅ _ n od us F.keep (Nat.le_trans hL (Nat.le_of_lt lx3)) (Nat.le_trans hL (Nat.le_of_lt lx4)) ⟨n0 N, n1 N⟩ hi (hU.mono fun a o hm => ⟨(N (a, o) (.tail _ (.tail _ hm))).1, (N (a, o) (.tail _ (.tail _ hm))).2.2⟩)
end
end Mine
end
-- F14
section
namespace Mine
section
variable {w : World} {A : Around} {E : Value → Shared → Prop} {K : Frag} {mg mb : Str → Option Value} {Q : Value → Shared → Prop} {h : Heap} {gs : Array GenState} {d : Drawn} {t : Nat} {os : OsState}
noncomputable def Calls (w : World) (f lg : Addr) (n : Nat) (h : Heap) (o : Obj) (gs : Array GenState) (d : Drawn) (os : OsState) (vs : List Value) (ex : List (Str × Value)) (P : Value → Obj → Prop) : Prop :=
  ∀ (A : Around) (E : Value → Shared → Prop) (Q : Value → Shared → Prop) (h' : Heap) (t : Nat), Amb A n → Sub (h.hide lg) h' → h.objs.size ≤ h'.objs.size → h'.get? lg = some o →
    (∀ v h'' t' o', P v o' → Sub (h'.hide lg) h'' → h''.get? lg = some o' → Q v ⟨h'', gs, d, t', os⟩) → wpAny (model PW w) A (call (.ref f) vs ex) Q E ⟨h', gs, d, t, os⟩
theorem info_spec (KF : FnK K 59 "_get_name_info" "_get_name_info" a_info b_info s_info [] .none .none 58 .none) {f lg : Addr} {o : Obj} {v : Value} {ex : List (Str × Value)} {P : Value → Obj → Prop} {n : Nat}
    (G : Gd K mg mb (h.hide lg)) (am : Amb A (n + 2)) (ho : h.get? lg = some o) (hn : (ex.map (·.1)).Nodup) (hz : ex.length ≤ 100)
    (hb : ∀ pm, bindArgs (fnX "_get_name_info" "_get_name_info" a_info b_info s_info [] .none .none .none pm none (.ref 58) .none) ⟨[v, .ref f], ex⟩ = kwBinds [("name_index", v), ("get_name", .ref f)] ex "extrainfo")
    (hk : ∀ h', Sub (h.hide lg) h' → Looks (model PW w) h' (keeperOf (.ref f)) .frame) (hc : Calls w f lg n h o gs d os [v] ex P)
    (q : ∀ a r h' t' o', P r o' → Sub (h.hide lg) h' → h'.get? lg = some o' → h'.get? a = some (tupO [r, r]) → h.objs.size ≤ a → Q (.ref a) ⟨h', gs, d, t', os⟩) :
    wpAny (model PW w) A (call (.ref 59) [v, .ref f] ex) Q E ⟨h, gs, d, t, os⟩ := by
  refine call_fnKW am.room KF G (hideSub h lg) (Nat.le_of_eq (Heap.hide_size h lg)) (W := [(lg, o)]) ?_ hb hn ?_ (fun D => by with_unfolding_all rfl)
  · intro p hp
    rcases List.mem_cons.mp hp with rfl | hp
    · exact ⟨ho, Heap.hide_self h lg⟩
    · cases hp
  intro L h₁ t₁ D k es F N hK hDs hWD hDL kp hD
  have am2 := Amb.deeper (n := n + 1) (env := envX "_get_name_info" s_info L 59 (.ref 58) []) am
  refine wpAny_execs_cons ?_
  wtm_at "go2"
  refine isnot_ref_none ?_
  wtm_at "go2"
  rw [if_pos rfl]
  wtm_at "go2"
  refine callWith_kk F N (.head _) hK hn hDs (by rw [hK.len]; exact hz) hk (vs := [v]) ?_ ?_ ?_
  · intro Q E h t F q
    wtm_at "go2"
    exact q
  · intro Q E h t F q
    wtm_at "go2"
    exact q
  intro h₂ D2 k2 t₂ F₂ N₂
  have hlg := n2 N₂
  have hlgL := (N₂ (lg, o) (by wtm_at "mm")).2.1
  have am3 : Amb (A.deeper (envX "_get_name_info" s_info L 59 (.ref 58) [])) n := am2.mono (by lia)
  refine hc _ _ _ h₂ t₂ am3 F₂.keep (by have := Fr.szle F₂; rwa [Heap.hide_size] at this) hlg ?_
  intro r h₃ t₃ o' hP k3 ho'
  have e3 := of_hide' k3
  have F₃ := Fr.ext F₂ hlgL (Heap.hide_self h lg) e3
  have N₃ : News (h.hide lg) L h₃ [(lg, o')] := fun p hp => by
    rcases List.mem_cons.mp hp with rfl | hp
    · exact ⟨ho', hlgL, Heap.hide_self h lg⟩
    · cases hp
  wtm_at "sts"
  intro h₄ F₄ N₄
  wtm_at "go2"
  with_reducible refine r_newTuple F₄ N₄ ?_
  intro a h₅ F₅ N₅ l5 l6
  have hL5 := Fr.lt F₄
  exact q a r h₅ _ o' hP F₅.keep (n1 N₅) (n0 N₅) (Nat.le_trans hD (Nat.le_trans (Nat.le_of_lt hDL) (Nat.le_trans (Nat.le_of_lt hL5) l6)))
end
end Mine
end
-- F15
section
namespace Mine
noncomputable def bis (go : Nat → Bool) : Nat → Nat → Nat → Nat × List Nat
  | 0, lo, _ => (lo, [])
  | n + 1, lo, hi => if lo < hi then (if go ((lo + hi) / 2) then ((bis go n lo ((lo + hi) / 2)).1, (lo + hi) / 2 :: (bis go n lo ((lo + hi) / 2)).2)
      else ((bis go n ((lo + hi) / 2 + 1) hi).1, (lo + hi) / 2 :: (bis go n ((lo + hi) / 2 + 1) hi).2)) else (lo, [])
noncomputable def LogAt (h : Heap) (lg : Addr) (xs : List Int) : Prop := ∃ vs c, h.get? lg = some (listOf (List.toArray vs) c) ∧ IntsAre vs xs
noncomputable def Asks (w : World) (f lg : Addr) (n : Nat) (h : Heap) (gs : Array GenState) (d : Drawn) (os : OsState) (many : Nat) (kf e : Nat → Int) : Prop :=
  ∀ (A : Around) (E : Value → Shared → Prop) (Q : Value → Shared → Prop) (h' : Heap) (t i : Nat) (u : Tok) (xs : List Int), Amb A n → i < many → xs.length ≤ 10000 → Sub (h.hide lg) h' → h.objs.size ≤ h'.objs.size → LogAt h' lg xs →
    (∀ h'' t' u', Sub (h'.hide lg) h'' → LogAt h'' lg (xs ++ [e i]) → Q (.int (kf i) u') ⟨h'', gs, d, t', os⟩) → wpAny (model PW w) A (call (.ref f) [.int i u] []) Q E ⟨h', gs, d, t, os⟩
theorem bis_any (go : Nat → Bool) : ∀ (n m lo hi : Nat), hi - lo ≤ n → hi - lo ≤ m → bis go n lo hi = bis go m lo hi
  | 0, 0, _, _, _, _ => rfl
  | 0, m + 1, lo, hi, h1, h2 => by
    simp only [bis]
    rw [if_neg (Nat.not_lt.mpr (show hi ≤ lo from lo_add h1))]
  | n + 1, 0, lo, hi, h1, h2 => by
    simp only [bis]
    rw [if_neg (Nat.not_lt.mpr (show hi ≤ lo from lo_add h2))]
  | n + 1, m + 1, lo, hi, h1, h2 => by
    by_cases hlt : lo < hi
    · simp only [bis, if_pos hlt]
      rw [bis_any go n m lo ((lo + hi) / 2) (hf_l (mid2 hlt) h1) (hf_l (mid2 hlt) h2), bis_any go n m ((lo + hi) / 2 + 1) hi (hf_r (mid1 (Nat.le_of_lt hlt)) h1) (hf_r (mid1 (Nat.le_of_lt hlt)) h2)]
    · simp only [bis, if_neg hlt]
theorem bis_fuel (go : Nat → Bool) (n lo hi : Nat) (h : hi - lo ≤ n) : bis go n lo hi = bis go (hi - lo) lo hi := bis_any go _ _ _ _ h (Nat.le_refl _)
section
variable {w : World} {A : Around} {E : Value → Shared → Prop} {K : Frag} {mg mb : Str → Option Value} {Q : Value → Shared → Prop} {h : Heap} {gs : Array GenState} {d : Drawn} {t : Nat} {os : OsState}
inductive BisJ (h : Heap) (gs : Array GenState) (d : Drawn) (os : OsState) (lg L l f : Addr) (go : Nat → Bool) (e : Nat → Int) (lo hi : Nat) (xs : List Int) (x : Int) : Nat → Shared → Prop
  | mk (lo' hi' : Nat) (h' : Heap) (m' : Str → Option Value) (t' : Nat) (u u' : Tok) (xs' : List Int) (ls' : List Value) (lc' : Nat) (h1 : lo ≤ lo') (h2 : lo' ≤ hi') (h3 : hi' ≤ hi) (F : Fr (h.hide lg) L h' m') (N : News (h.hide lg) L h' [(lg, listOf (List.toArray ls') lc')])
    (hI : IntsAre ls' xs') (hz : xs'.length + (hi' - lo') ≤ 10000) (ma : m' "a" = some (.ref l)) (mx : ∃ u, m' "x" = some (.int x u)) (mlo : m' "lo" = some (.int lo' u)) (mhi : m' "hi" = some (.int hi' u')) (mk : m' "key" = some (.ref f))
    (e1 : (bis go (hi' - lo') lo' hi').1 = (bis go (hi - lo) lo hi).1) (e2 : xs' ++ (bis go (hi' - lo') lo' hi').2.map e = xs ++ (bis go (hi - lo) lo hi).2.map e) : BisJ h gs d os lg L l f go e lo hi xs x (hi' - lo') ⟨h', gs, d, t', os⟩
theorem bis_down {go : Nat → Bool} {lo hi md : Nat} (hlt : lo < hi) (hmd : (lo + hi) / 2 = md) (hb : go md = true) : bis go (hi - lo) lo hi = ((bis go (md - lo) lo md).1, md :: (bis go (md - lo) lo md).2) := by
  obtain ⟨k, hk⟩ := sub_one_add hlt
  rw [hk]
  show (if lo < hi then _ else _) = _
  rw [if_pos hlt, hmd, if_pos hb, bis_fuel go k lo md (hf_l (hmd ▸ mid2 hlt) (Nat.le_of_eq hk))]
theorem bis_up {go : Nat → Bool} {lo hi md : Nat} (hlt : lo < hi) (hmd : (lo + hi) / 2 = md) (hb : go md = false) : bis go (hi - lo) lo hi = ((bis go (hi - (md + 1)) (md + 1) hi).1, md :: (bis go (hi - (md + 1)) (md + 1) hi).2) := by
  obtain ⟨k, hk⟩ := sub_one_add hlt
  rw [hk]
  show (if lo < hi then _ else _) = _
  rw [if_pos hlt, hmd, if_neg (by rw [hb]; decide), bis_fuel go k (md + 1) hi (hf_r (hmd ▸ mid1 (Nat.le_of_lt hlt)) (Nat.le_of_eq hk))]
section
variable {h h₄ : Heap} {gs : Array GenState} {d : Drawn} {os : OsState} {lg L l f : Addr} {go : Nat → Bool} {e : Nat → Int} {lo hi lo' hi' md : Nat} {xs xs' : List Int} {x : Int} {m4 : Str → Option Value} {ls3 : List Value} {lc3 t4 : Nat} {u u' : Tok}
theorem BisJ.down (h1 : lo ≤ lo') (h3 : hi' ≤ hi) (hlt : lo' < hi') (hmd : (lo' + hi') / 2 = md) (hb : go md = true) (e1 : (bis go (hi' - lo') lo' hi').1 = (bis go (hi - lo) lo hi).1) (e2 : xs' ++ (bis go (hi' - lo') lo' hi').2.map e = xs ++ (bis go (hi - lo) lo hi).2.map e)
    (hz : xs'.length + (hi' - lo') ≤ 10000) (F : Fr (h.hide lg) L h₄ m4) (N : News (h.hide lg) L h₄ [(lg, listOf (List.toArray ls3) lc3)]) (hI : IntsAre ls3 (xs' ++ [e md])) (ma : m4 "a" = some (.ref l)) (mx : ∃ u, m4 "x" = some (.int x u)) (mlo : m4 "lo" = some (.int lo' u)) (mhi : m4 "hi" = some (.int md u')) (mk : m4 "key" = some (.ref f)) :
    ∃ k', k' < hi' - lo' ∧ BisJ h gs d os lg L l f go e lo hi xs x k' ⟨h₄, gs, d, t4, os⟩ := by
  rw [bis_down hlt hmd hb] at e1 e2
  have g1 : lo' ≤ md := hmd ▸ mid1 (Nat.le_of_lt hlt)
  have g2 : md < hi' := hmd ▸ mid2 hlt
  exact ⟨md - lo', sub_lt_l g1 g2, .mk lo' md h₄ m4 t4 u u' _ ls3 lc3 h1 g1 (Nat.le_trans (Nat.le_of_lt g2) h3) F N hI (by rw [List.length_append]; exact hf_a hlt g2 hz) ma mx mlo mhi mk e1 (by rw [← e2, List.append_assoc]; rfl)⟩
theorem BisJ.up (h1 : lo ≤ lo') (h3 : hi' ≤ hi) (hlt : lo' < hi') (hmd : (lo' + hi') / 2 = md) (hb : go md = false) (e1 : (bis go (hi' - lo') lo' hi').1 = (bis go (hi - lo) lo hi).1) (e2 : xs' ++ (bis go (hi' - lo') lo' hi').2.map e = xs ++ (bis go (hi - lo) lo hi).2.map e)
    (hz : xs'.length + (hi' - lo') ≤ 10000) (F : Fr (h.hide lg) L h₄ m4) (N : News (h.hide lg) L h₄ [(lg, listOf (List.toArray ls3) lc3)]) (hI : IntsAre ls3 (xs' ++ [e md])) (ma : m4 "a" = some (.ref l)) (mx : ∃ u, m4 "x" = some (.int x u)) (mlo : m4 "lo" = some (.int (md + 1 : Nat) u)) (mhi : m4 "hi" = some (.int hi' u')) (mk : m4 "key" = some (.ref f)) :
    ∃ k', k' < hi' - lo' ∧ BisJ h gs d os lg L l f go e lo hi xs x k' ⟨h₄, gs, d, t4, os⟩ := by
  rw [bis_up hlt hmd hb] at e1 e2
  have g1 : lo' ≤ md := hmd ▸ mid1 (Nat.le_of_lt hlt)
  have g2 : md < hi' := hmd ▸ mid2 hlt
  exact ⟨hi' - (md + 1), sub_lt_r hlt g1, .mk (md + 1) hi' h₄ m4 t4 u u' _ ls3 lc3 (Nat.le_succ_of_le (Nat.le_trans h1 g1)) g2 h3 F N hI (by rw [List.length_append]; exact hf_b hlt g1 hz) ma mx mlo mhi mk e1 (by rw [← e2, List.append_assoc]; rfl)⟩
theorem bis_same (go : Nat → Bool) (lo : Nat) : bis go (lo - lo) lo lo = (lo, []) := by rw [Nat.sub_self]; rfl
end
theorem right_spec (KF : FnK K 75 "bisect_right" "bisect_right" a_right b_right s_right [] (.ref 67) (.ref 68) 74 .none)
    (hbd : ∀ v1 v2 v3 v4 v5, Bnd K "bisect_right" "bisect_right" a_right b_right s_right [] (.ref 67) (.ref 68) 74 .none ⟨[v1, v2, v3, v4], [("key", v5)]⟩ [("a", v1), ("x", v2), ("lo", v3), ("hi", v4), ("key", v5)])
    {f lg l : Addr} {many lo hi n : Nat} {x : Int} {u1 u2 u3 : Tok} {kf e : Nat → Int} {xs : List Int} {vs : List Value} {c : Nat}
    (G : Gd K mg mb (h.hide lg)) (am : Amb A (n + 2)) (hX : LogAt h lg xs) (hz : xs.length + (hi - lo) ≤ 10000) (hl : h.get? l = some (listOf vs.toArray c)) (hll : l ≠ lg) (hv : ∀ i, i < many → ∃ u, vs[i]? = some (.int i u)) (hlh : lo ≤ hi) (hm : hi ≤ many) (hm2 : many ≤ 10000)
    (hkp : ∀ h', Sub (h.hide lg) h' → Kp (model PW w) h' (.ref f)) (hc : Asks w f lg n h gs d os many kf e)
    (q : ∀ h' t' u, Sub (h.hide lg) h' → LogAt h' lg (xs ++ (bis (fun i => decide (x < kf i)) (hi - lo) lo hi).2.map e) → Q (.int (bis (fun i => decide (x < kf i)) (hi - lo) lo hi).1 u) ⟨h', gs, d, t', os⟩) :
    wpAny (model PW w) A (call (.ref 75) [.ref l, .int x u1, .int lo u2, .int hi u3] [("key", .ref f)]) Q E ⟨h, gs, d, t, os⟩ := by
  obtain ⟨ls, lc, hlg, hI⟩ := hX
  have hl' : (h.hide lg).get? l = some (listOf vs.toArray c) := (Heap.hide_ne h hll).trans hl
  refine call_fn am.room KF G (hideSub h lg) (Nat.le_of_eq (Heap.hide_size h lg)) (W := [(lg, listOf ls.toArray lc)]) ?_ (fun pm => hbd _ _ _ _ _ _ pm (G.X.keeps (hideSub h lg))) ?_
  · intro p hp
    rcases List.mem_cons.mp hp with rfl | hp
    · exact ⟨hlg, Heap.hide_self h lg⟩
    · cases hp
  intro L h₁ t₁ F N lx kp hL
  have am2 := Amb.deeper (n := n + 1) (env := envX "bisect_right" s_right L 75 (.ref 74) []) am
  refine wpAny_execs_cons ?_
  wtm_at "go2"
  rw [if_neg (by simp)]
  wtm_at "go2"
  refine is_int_none ?_
  wtm_at "go2"
  rw [if_neg (by decide)]
  wtm_at "go2"
  refine is_ref_none ?_
  wtm_at "go2"
  rw [if_neg (by decide)]
  refine wpAny_execs_cons ?_
  refine wpAny_While ?_
  refine codeAny_whileLoop (BisJ h gs d os lg L l f (fun i => decide (x < kf i)) e lo hi xs x) ?_ (hi - lo) ?_
  · rintro k s ⟨lo', hi', h', m', t', u, u', xs', ls', lc', h1, h2, h3, F, N, hI', hz', ma, mx, mlo, mhi, mkey, e1, e2⟩
    obtain ⟨ux, mx⟩ := mx
    wtm_at "go2"
    refine split_bool ?_ ?_
    · intro hlt
      have hlt : lo' < hi' := by simpa using hlt
      have hmid1 := mid1 (Nat.le_of_lt hlt)
      have hmid2 := mid2 hlt
      generalize hmd : (lo' + hi') / 2 = md at hmid1 hmid2
      wtm_at "go2"
      with_reducible refine r_div ?_ ?_ ?_
      · decide
      · decide
      have emd : ((lo' : Int) + (hi' : Int)) / 2 = (md : Int) := by lia
      rw [emd]
      wtm_at "sts"
      intro h₂ F N
      wtm_at "go2"
      obtain ⟨um, hum⟩ := hv md (by lia)
      with_reducible refine r_subL (F.keep _ _ hl') (x := .int md um) ?_ ?_ ?_ ?_
      · lia
      · lia
      · simpa using hum
      wtm_at "go2"
      refine ⟨hkp _ F.keep, ?_⟩
      have hlgL := (N _ (.head _)).2.1
      refine hc _ _ _ h₂ _ md _ xs' (am2.mono (by lia)) (by lia) (by lia) F.keep (by have := Fr.szle F; rwa [Heap.hide_size] at this) ⟨ls', lc', n0 N, hI'⟩ ?_
      intro h₃ t₃ u₃ k3 zq1
      obtain ⟨ls3, lc3, hlg3, hI3⟩ := zq1
      have F := Fr.ext F hlgL (Heap.hide_self h lg) (of_hide' k3)
      have N : News (h.hide lg) L h₃ [(lg, listOf ls3.toArray lc3)] := fun p hp => by
        rcases List.mem_cons.mp hp with rfl | hp
        · exact ⟨hlg3, hlgL, Heap.hide_self h lg⟩
        · cases hp
      wtm_at "go2"
      refine split_bool ?_ ?_
      · intro hb
        wtm_at "go2"
        wtm_at "sts"
        intro h₄ F N
        wtm_at "go2"
        exact BisJ.down (go := (fun i => decide (x < kf i))) h1 h3 hlt hmd (by simpa using hb) e1 e2 hz' F N hI3 ma ⟨ux, mx⟩ mlo rfl mkey
      · intro hb
        wtm_at "go2"
        wtm_at "sts"
        intro h₄ F N
        wtm_at "go2"
        exact BisJ.up (go := (fun i => decide (x < kf i))) h1 h3 hlt hmd (by simpa using hb) e1 e2 hz' F N hI3 ma ⟨ux, mx⟩ rfl mhi mkey
    · intro hge
      have hge : lo' = hi' := by
        have : ¬ ((lo' : Int) < (hi' : Int)) := by simpa using hge
        lia
      wtm_at "go2"
      rw [hge, bis_same] at e1 e2
      have := q h' t' u F.keep ⟨ls', lc', n0 N, by rw [← e2]; simpa using hI'⟩
      rw [← e1, ← hge] at this
      exact this
  · exact ⟨lo, hi, h₁, _, _, u2, u3, xs, ls, lc, Nat.le_refl _, hlh, Nat.le_refl _, F, N, hI, hz, by with_unfolding_all rfl, ⟨u1, by with_unfolding_all rfl⟩, by with_unfolding_all rfl, by with_unfolding_all rfl, by with_unfolding_all rfl, rfl, rfl⟩
theorem left_spec (KF : FnK K 84 "bisect_left" "bisect_left" a_left b_left s_left [] (.ref 76) (.ref 77) 83 .none)
    (hbd : ∀ v1 v2 v3 v4 v5, Bnd K "bisect_left" "bisect_left" a_left b_left s_left [] (.ref 76) (.ref 77) 83 .none ⟨[v1, v2, v3, v4], [("key", v5)]⟩ [("a", v1), ("x", v2), ("lo", v3), ("hi", v4), ("key", v5)])
    {f lg l : Addr} {many lo hi n : Nat} {x : Int} {u1 u2 u3 : Tok} {kf e : Nat → Int} {xs : List Int} {vs : List Value} {c : Nat}
    (G : Gd K mg mb (h.hide lg)) (am : Amb A (n + 2)) (hX : LogAt h lg xs) (hz : xs.length + (hi - lo) ≤ 10000) (hl : h.get? l = some (listOf vs.toArray c)) (hll : l ≠ lg) (hv : ∀ i, i < many → ∃ u, vs[i]? = some (.int i u)) (hlh : lo ≤ hi) (hm : hi ≤ many) (hm2 : many ≤ 10000)
    (hkp : ∀ h', Sub (h.hide lg) h' → Kp (model PW w) h' (.ref f)) (hc : Asks w f lg n h gs d os many kf e)
    (q : ∀ h' t' u, Sub (h.hide lg) h' → LogAt h' lg (xs ++ (bis (fun i => (!decide (kf i < x))) (hi - lo) lo hi).2.map e) → Q (.int (bis (fun i => (!decide (kf i < x))) (hi - lo) lo hi).1 u) ⟨h', gs, d, t', os⟩) :
    wpAny (model PW w) A (call (.ref 84) [.ref l, .int x u1, .int lo u2, .int hi u3] [("key", .ref f)]) Q E ⟨h, gs, d, t, os⟩ := by
  obtain ⟨ls, lc, hlg, hI⟩ := hX
  have hl' : (h.hide lg).get? l = some (listOf vs.toArray c) := (Heap.hide_ne h hll).trans hl
  refine call_fn am.room KF G (hideSub h lg) (Nat.le_of_eq (Heap.hide_size h lg)) (W := [(lg, listOf ls.toArray lc)]) ?_ (fun pm => hbd _ _ _ _ _ _ pm (G.X.keeps (hideSub h lg))) ?_
  · intro p hp
    rcases List.mem_cons.mp hp with rfl | hp
    · exact ⟨hlg, Heap.hide_self h lg⟩
    · cases hp
  intro L h₁ t₁ F N lx kp hL
  have am2 := Amb.deeper (n := n + 1) (env := envX "bisect_left" s_left L 84 (.ref 83) []) am
  refine wpAny_execs_cons ?_
  wtm_at "go2"
  rw [if_neg (by simp)]
  wtm_at "go2"
  refine is_int_none ?_
  wtm_at "go2"
  rw [if_neg (by decide)]
  wtm_at "go2"
  refine is_ref_none ?_
  wtm_at "go2"
  rw [if_neg (by decide)]
  refine wpAny_execs_cons ?_
  refine wpAny_While ?_
  refine codeAny_whileLoop (BisJ h gs d os lg L l f (fun i => (!decide (kf i < x))) e lo hi xs x) ?_ (hi - lo) ?_
  · rintro k s ⟨lo', hi', h', m', t', u, u', xs', ls', lc', h1, h2, h3, F, N, hI', hz', ma, mx, mlo, mhi, mkey, e1, e2⟩
    obtain ⟨ux, mx⟩ := mx
    wtm_at "go2"
    refine split_bool ?_ ?_
    · intro hlt
      have hlt : lo' < hi' := by simpa using hlt
      have hmid1 := mid1 (Nat.le_of_lt hlt)
      have hmid2 := mid2 hlt
      generalize hmd : (lo' + hi') / 2 = md at hmid1 hmid2
      wtm_at "go2"
      with_reducible refine r_div ?_ ?_ ?_
      · decide
      · decide
      have emd : ((lo' : Int) + (hi' : Int)) / 2 = (md : Int) := by lia
      rw [emd]
      wtm_at "sts"
      intro h₂ F N
      wtm_at "go2"
      obtain ⟨um, hum⟩ := hv md (by lia)
      with_reducible refine r_subL (F.keep _ _ hl') (x := .int md um) ?_ ?_ ?_ ?_
      · lia
      · lia
      · simpa using hum
      wtm_at "go2"
      refine ⟨hkp _ F.keep, ?_⟩
      have hlgL := (N _ (.head _)).2.1
      refine hc _ _ _ h₂ _ md _ xs' (am2.mono (by lia)) (by lia) (by lia) F.keep (by have := Fr.szle F; rwa [Heap.hide_size] at this) ⟨ls', lc', n0 N, hI'⟩ ?_
      intro h₃ t₃ u₃ k3 zq1
      obtain ⟨ls3, lc3, hlg3, hI3⟩ := zq1
      have F := Fr.ext F hlgL (Heap.hide_self h lg) (of_hide' k3)
      have N : News (h.hide lg) L h₃ [(lg, listOf ls3.toArray lc3)] := fun p hp => by
        rcases List.mem_cons.mp hp with rfl | hp
        · exact ⟨hlg3, hlgL, Heap.hide_self h lg⟩
        · cases hp
      wtm_at "go2"
      refine split_bool ?_ ?_
      · intro hb
        wtm_at "go2"
        wtm_at "sts"
        intro h₄ F N
        wtm_at "go2"
        exact BisJ.up (go := (fun i => (!decide (kf i < x)))) h1 h3 hlt hmd (by simpa using hb) e1 e2 hz' F N hI3 ma ⟨ux, mx⟩ rfl mhi mkey
      · intro hb
        wtm_at "go2"
        wtm_at "sts"
        intro h₄ F N
        wtm_at "go2"
        exact BisJ.down (go := (fun i => (!decide (kf i < x)))) h1 h3 hlt hmd (by simpa using hb) e1 e2 hz' F N hI3 ma ⟨ux, mx⟩ mlo rfl mkey
    · intro hge
      have hge : lo' = hi' := by
        have : ¬ ((lo' : Int) < (hi' : Int)) := by simpa using hge
        lia
      wtm_at "go2"
      rw [hge, bis_same] at e1 e2
      have := q h' t' u F.keep ⟨ls', lc', n0 N, by rw [← e2]; simpa using hI'⟩
      rw [← e1, ← hge] at this
      exact this
  · exact ⟨lo, hi, h₁, _, _, u2, u3, xs, ls, lc, Nat.le_refl _, hlh, Nat.le_refl _, F, N, hI, hz, by with_unfolding_all rfl, ⟨u1, by with_unfolding_all rfl⟩, by with_unfolding_all rfl, by with_unfolding_all rfl, by with_unfolding_all rfl, rfl, rfl⟩
end
end Mine
end
-- F16
section
namespace Mine
noncomputable def entry (row at_ item : Nat) : Int := if row = 1 then 10 * item + at_ else 10 * at_ + item
noncomputable def TellOk (w : World) (tell lg : Addr) (n : Nat) (b : Heap) (gs : Array GenState) (d : Drawn) (os : OsState) (kf : Nat → Nat → Int) (sz : Nat → Nat) : Prop :=
  ∀ (A : Around) (E : Value → Shared → Prop) (Q : Value → Shared → Prop) (h' : Heap) (t at_ row item : Nat) (u1 u2 u3 : Tok) (xs : List Int), Amb A n → row < 2 → at_ < sz row → item < 10 → xs.length ≤ 10000 → Sub b h' → b.objs.size ≤ h'.objs.size → LogAt h' lg xs →
    (∀ h'' t' u', Sub (h'.hide lg) h'' → LogAt h'' lg (xs ++ [entry row at_ item]) → Q (.int (kf row at_) u') ⟨h'', gs, d, t', os⟩) → wpAny (model PW w) A (call (.ref tell) [.int at_ u1] [("row", .int row u2), ("item", .int item u3)]) Q E ⟨h', gs, d, t, os⟩
theorem TellOk.mono {w : World} {tell lg : Addr} {n : Nat} {b b' : Heap} {gs : Array GenState} {d : Drawn} {os : OsState} {kf : Nat → Nat → Int} {sz : Nat → Nat} (h : TellOk w tell lg n b gs d os kf sz) (k : Sub b b') (z : b.objs.size ≤ b'.objs.size) : TellOk w tell lg n b' gs d os kf sz :=
  fun A E Q h' t at_ row item u1 u2 u3 xs am h1 h2 h3 h4 sub hz hL q => h A E Q h' t at_ row item u1 u2 u3 xs am h1 h2 h3 h4 (fun b o e => sub b o (k b o e)) (Nat.le_trans z hz) hL q
noncomputable def lamOf : Option Stmt → Option (Arguments × Expr × Scope × Pos)
  | some (.Assign _ (.Lambda a b s p) _) => some (a, b, s, p)
  | _ => none
noncomputable def lookL : Arguments × Expr × Scope × Pos := pick (lamOf (b_taken[5]?)) _ (by with_unfolding_all rfl)
noncomputable def lookA : Arguments := lookL.1
noncomputable def lookB : Expr := lookL.2.1
noncomputable def lookS : Scope := lookL.2.2.1
section
variable {w : World} {K : Frag} {mg mb : Str → Option Value} {h : Heap} {gs : Array GenState} {d : Drawn} {os : OsState}
theorem log_ne {lg x : Addr} {xs : List Int} {o : Obj} (hX : LogAt h lg xs) (e : h.get? x = some o) (hd : ∀ vs c, o ≠ listOf (List.toArray vs) c) : x ≠ lg := by
  obtain ⟨vs, c, hl, -⟩ := hX
  rintro rfl
  rw [hl] at e
  exact hd vs c (Option.some.inj e).symm
theorem look_spec (KF : FnK K 59 "_get_name_info" "_get_name_info" a_info b_info s_info [] .none .none 58 .none) (nI : nsIn K mainGlobals "_get_name_info" = some (some (.ref 59))) {f c' lg tell cT cF cS : Addr} {oT oF oS oTl : Obj} {fd : FuncData} {pm ctv : Value} {clos : List (Str × Addr)} {qual : Str} {few short n : Nat} {u1 u2 : Tok} {xs0 : List Int} {kf : Nat → Nat → Int} {sz : Nat → Nat}
    (G : Gd K mg mb (h.hide lg)) (hX : LogAt h lg xs0) (ho : h.get? f = some (kla_obj "<lambda>" qual lookA lookB lookS clos pm c' ctv)) (hcd : h.CodeRec (.ref c') qual)
    (lT : clos.lookup ("tell" : Str) = some cT) (eT : h.get? cT = some oT) (dT : oT.data = .cell (some (.ref tell))) (lF : clos.lookup ("few" : Str) = some cF) (eF : h.get? cF = some oF) (dF : oF.data = .cell (some (.int few u1)))
    (lS : clos.lookup ("short" : Str) = some cS) (eS : h.get? cS = some oS) (dS : oS.data = .cell (some (.int short u2))) (hs : short < 2) (hf1 : 1 ≤ few) (hf2 : few ≤ 9)
    (eTl : h.get? tell = some oTl) (dTl : oTl.data = .func fd) (ht : TellOk w tell lg n (h.hide lg) gs d os kf sz) :
    Asks w f lg (n + 5) h gs d os (sz (1 - short)) (fun i => kf (1 - short) i) (fun i => entry (1 - short) i (few - 1)) := by
  intro A E Q h' t i u xs am hi hz sub hsz hL' q
  have nT := log_ne hX eT (by intro vs c e; rw [e] at dT; cases dT)
  have nF := log_ne hX eF (by intro vs c e; rw [e] at dF; cases dF)
  have nS := log_ne hX eS (by intro vs c e; rw [e] at dS; cases dS)
  have nTl := log_ne hX eTl (by intro vs c e; rw [e] at dTl; cases dTl)
  have nf := log_ne hX ho (by intro vs c e; have e2 := congrArg Obj.data e; cases e2)
  have kT := (Heap.hide_ne h nT).trans eT
  have kF := (Heap.hide_ne h nF).trans eF
  have kS := (Heap.hide_ne h nS).trans eS
  have kTl := (Heap.hide_ne h nTl).trans eTl
  have kf' := (Heap.hide_ne h nf).trans ho
  obtain ⟨ls, lc, hlg, hI⟩ := hL'
  have hcd' : h'.CodeRec (.ref c') qual := by
    obtain ⟨c2, o2, vs2, t2, e1, e2, e3, e4⟩ := hcd
    have n2 := log_ne hX e2 (by intro vs c e; rw [e] at e3; cases e3)
    exact ⟨c2, o2, vs2, t2, e1, sub _ _ ((Heap.hide_ne h n2).trans e2), e3, e4⟩
  refine call_lam am.room (sub _ _ kf') hcd' G sub (by rw [Heap.hide_size]; exact hsz) (W := [(lg, listOf ls.toArray lc)]) ?_ (binds := [("at", .int i u)]) (by kernel_rfl) ?_
  · intro p hp
    rcases List.mem_cons.mp hp with rfl | hp
    · exact ⟨hlg, Heap.hide_self h lg⟩
    · cases hp
  intro L h₁ t₁ F N lx kp hL
  have am2 := Amb.deeper (n := n + 4) (env := envX qual lookS L f (.ref c') clos) am
  show wpAny _ _ (eval (.Subscript _ _ _) _) _ _ _
  wtm_at "go2"
  with_reducible refine nm_K F G nI ?_
  with_reducible refine x_cw ?_
  wtm_at "go2"
  with_reducible refine nm_F (F.keep _ _ kT) dT ?_ lT
  wtm_at "go2"
  with_reducible refine nm_F (F.keep _ _ kS) dS ?_ lS
  wtm_at "go2"
  with_reducible refine nm_F (F.keep _ _ kF) dF ?_ lF
  wtm_at "go2"
  refine ⟨Kp.fnK KF (G.X.keeps F.keep), ?_⟩
  have e1 : (1 : Int) - (short : Int) = ((1 - short : Nat) : Int) := zi1 (by assumption)
  have e2 : (few : Int) - 1 = ((few - 1 : Nat) : Int) := zi2 (by assumption)
  rw [e1, e2]
  show wpAny _ _ (call (.ref 59) [_, _] [("row", _), ("item", _)]) _ _ _
  have hlg1 := n0 N
  refine info_spec KF (P := fun v o' => ∃ u vs c, v = .int (kf (1 - short) i) u ∧ o' = listOf (List.toArray vs) c ∧ IntsAre vs (xs ++ [entry (1 - short) i (few - 1)])) (n := n) (lg := lg) (G.keeps (subHide F.keep (Heap.hide_self h lg))) (am2.mono (by lia)) hlg1 ?_ ?_ ?_ ?_ ?_ ?_
  · show List.Nodup [("row" : Str), "item"]
    decide +kernel
  · simp
  · intro pm; kernel_rfl
  · intro h2 k2 A Q E s k qq
    unfold keeperOf
    refine wpAny_bind (wpAny_load (k _ _ (k2 _ _ ((Heap.hide_ne _ nTl).trans (F.keep _ _ kTl)))) ?_)
    rw [dTl]
    exact wpAny_pure qq
  · intro A E Q h2 t2 am3 k2 sz2 e3 q2
    have k3 : Sub (h.hide lg) h2 := fun b o e => k2 _ _ (subHide F.keep (Heap.hide_self h lg) b o e)
    refine ht _ _ _ h2 t2 i (1 - short) (few - 1) _ _ _ xs am3 (by lia) hi (by lia) hz k3 ?_ ⟨ls, lc, e3, hI⟩ ?_
    · exact Nat.le_trans (Fr.szle F) sz2
    · rintro h3 t3 u' k4 ⟨ls3, lc3, e4, I3⟩
      exact q2 _ h3 t3 _ ⟨u', ls3, lc3, rfl, rfl, I3⟩ k4 e4
  intro a r h2 t2 o' zq5 k2 e4 e5 hsza
  obtain ⟨u', vs, c, rfl, rfl, I2⟩ := zq5
  have k3 : Sub (h.hide lg) h2 := fun b o e => k2 _ _ (subHide F.keep (Heap.hide_self h lg) b o e)
  have hlgL := (N _ (.head _)).2.1
  have F := Fr.ext F hlgL (Heap.hide_self h lg) (of_hide' k2)
  wtm_at "go2"
  with_reducible refine r_mod ?_ ?_
  · decide
  have hat : ((i : Int) % 2).toNat = i % 2 := rfl
  refine r_subT e5 (x := .int (kf (1 - short) i) u') ?_ ?_ ?_ ?_
  · lia
  · lia
  · rw [hat]
    have : i % 2 = 0 ∨ i % 2 = 1 := Nat.mod_two_eq_zero_or_one i
    rcases this with e | e <;> rw [e] <;> rfl
  refine q h2 _ u' ?_ ⟨vs, c, e4, I2⟩
  exact fun b o e => k2 _ _ (by
    have hb : b ≠ lg := by rintro rfl; rw [Heap.hide_self] at e; cases e
    exact (Heap.hide_ne _ hb).trans (kp _ _ (hideSub h' lg _ _ e)))
end
end Mine
end
-- F26
section
namespace Mine
noncomputable def tellL : Arguments × Expr × Scope × Pos := pick (lamOf (b_law[11]?)) _ (by with_unfolding_all rfl)
noncomputable def tellA : Arguments := tellL.1
noncomputable def tellB : Expr := tellL.2.1
noncomputable def tellS : Scope := tellL.2.2.1
theorem IntsAre.snocT {vs : List Value} {ns : List Int} (h : IntsAre vs ns) (n : Int) (t : Tok) : IntsAre (vs ++ [.int n t]) (ns ++ [n]) := by
  induction h with
  | nil => exact .cons n t .nil
  | cons k u _ ih => exact .cons k u ih
theorem ints_atT {vs : List Value} {ns : List Int} (h : IntsAre vs ns) {i : Nat} (hi : i < ns.length) : ∃ u, vs[i]? = some (.int (ns.getD i 0) u) := by
  induction h generalizing i with
  | nil => simp at hi
  | cons k u r ih =>
    cases i with
    | zero => exact ⟨u, rfl⟩
    | succ i => simpa using ih (by simpa using hi)
section
variable {w : World} {A : Around} {E : Value → Shared → Prop} {K : Frag} {mg mb : Str → Option Value} {Q : Value → Shared → Prop} {h b : Heap} {gs : Array GenState} {d : Drawn} {t : Nat} {os : OsState}
noncomputable def tellR : Expr := match tellB with | .BoolOp _ (_ :: r) p => .BoolOp .Or r p | e => e
theorem tell_spec {lg : Addr} (G : Gd K mg mb (b.hide lg)) {tell c' cK cL kl k0 k1 : Addr} {oK oL : Obj} {pm ctv : Value} {clos : List (Str × Addr)} {qual : Str} {ck ck0 ck1 : Nat} {kv0 kv1 : List Value} {ks0 ks1 : List Int}
    (ho : (b.hide lg).get? tell = some (kla_obj "<lambda>" qual tellA tellB tellS clos pm c' ctv)) (hcd : (b.hide lg).CodeRec (.ref c') qual)
    (lK : clos.lookup ("keys" : Str) = some cK) (eK : (b.hide lg).get? cK = some oK) (dK : oK.data = .cell (some (.ref kl))) (lL : clos.lookup ("log" : Str) = some cL) (eL : (b.hide lg).get? cL = some oL) (dL : oL.data = .cell (some (.ref lg)))
    (hkl : (b.hide lg).get? kl = some (listOf [Value.ref k0, .ref k1].toArray ck)) (hk0 : (b.hide lg).get? k0 = some (listOf kv0.toArray ck0)) (hI0 : IntsAre kv0 ks0) (hk1 : (b.hide lg).get? k1 = some (listOf kv1.toArray ck1)) (hI1 : IntsAre kv1 ks1)
    (hz0 : ks0.length ≤ 1000) (hz1 : ks1.length ≤ 1000) :
    TellOk w tell lg 2 b gs d os (fun r i => if r = 0 then ks0.getD i 0 else ks1.getD i 0) (fun r => if r = 0 then ks0.length else ks1.length) := by
  intro A E Q h' t at_ row item u1 u2 u3 xs am hrow hat hitem hxl sub hsz zq1 q
  obtain ⟨ls, lc, hlg, hI⟩ := zq1
  have sg : Sub (b.hide lg) h' := fun x o e => sub x o (hideSub b lg _ _ e)
  have hcd' : h'.CodeRec (.ref c') qual := hcd.keeps sg
  refine call_lam am.room (sg _ _ ho) hcd' G sg (by rw [Heap.hide_size]; exact hsz) (W := [(lg, listOf ls.toArray lc)]) ?_ (binds := [("at", .int at_ u1), ("row", .int row u2), ("item", .int item u3)]) (by kernel_rfl) ?_
  · intro p hp
    rcases List.mem_cons.mp hp with rfl | hp
    · exact ⟨hlg, Heap.hide_self b lg⟩
    · cases hp
  intro L h₁ t₁ F N lx kp hL
  show wpAny _ _ (eval (.BoolOp _ _ _) _) _ _ _
  wtm_at "go2"
  with_reducible refine nm_F (F.keep _ _ eL) dL ?_ lL
  wtm_at "go2"
  with_reducible refine r_listMeth (n0 N) PySem.F.slot_list_append PySem.F.type_list_append ?_
  wtm_at "go2"
  have hlen := IntsAre.length hI
  have fin : ∀ (e : Int) (ue : Tok) (t2 : Nat), e = entry row at_ item →
      wpAny (model PW w) (A.deeper (envX qual tellS L tell (.ref c') clos)) (call (.builtin "list.append") [.ref lg, .int e ue]) (fun v s₁ => wpAny (model PW w) (A.deeper (envX qual tellS L tell (.ref c') clos)) (truthy v) (fun c s₂ => if c = true then Q v s₂ else wpAny (model PW w) (A.deeper (envX qual tellS L tell (.ref c') clos)) (eval tellR (envX qual tellS L tell (.ref c') clos)) Q (fun zz zz => False) s₂) (fun zz zz => False) s₁) (fun zz zz => False) ⟨h₁, gs, d, t2, os⟩ := by
    intro e ue t2 he
    have zl := N _ (.head _)
    refine append_at (s := ⟨h₁, gs, d, t2, os⟩) (hsz := by rw [List.size_toArray, hlen, sizeLine_eq]; lia) zl.1 fun h₂ hs e2 => ?_
    have F : Fr (b.hide lg) L h₂ _ := Fr.same F zl.2.1 zl.2.2 hs
    rw [List.push_toArray] at e2
    refine PyProof.Rows.truthy_none ?_
    rw [if_neg (by decide)]
    show wpAny _ _ (eval (.BoolOp .Or [_] _) _) _ _ _
    wtm_at "go2"
    with_reducible refine nm_F (F.keep _ _ eK) dK ?_ lK
    wtm_at "go2"
    have hr2 : row = 0 ∨ row = 1 := by lia
    have hX : LogAt h₂ lg (xs ++ [entry row at_ item]) := ⟨_, _, e2, by rw [← he]; exact IntsAre.snocT hI _ _⟩
    have sub2 : Sub (h'.hide lg) h₂ := fun x o eb => by
      have hx : x ≠ lg := by rintro rfl; rw [Heap.hide_self] at eb; cases eb
      exact (hs.2 x hx).trans (kp _ _ (hideSub h' lg _ _ eb))
    rcases hr2 with rfl | rfl
    · with_reducible refine r_subL (F.keep _ _ hkl) (x := .ref k0) ?_ ?_ ?_ ?_
      · decide
      · decide
      · rfl
      wtm_at "go2"
      obtain ⟨u, hu⟩ := ints_atT hI0 (i := at_) (by simpa using hat)
      with_reducible refine r_subL (F.keep _ _ hk0) (x := .int (ks0.getD at_ 0) u) ?_ ?_ ?_ ?_
      · lia
      · simp at hat; lia
      · simpa using hu
      exact q h₂ _ u sub2 hX
    · with_reducible refine r_subL (F.keep _ _ hkl) (x := .ref k1) ?_ ?_ ?_ ?_
      · decide
      · decide
      · rfl
      wtm_at "go2"
      obtain ⟨u, hu⟩ := ints_atT hI1 (i := at_) (by simpa using hat)
      with_reducible refine r_subL (F.keep _ _ hk1) (x := .int (ks1.getD at_ 0) u) ?_ ?_ ?_ ?_
      · lia
      · simp at hat; lia
      · simpa using hu
      exact q h₂ _ u sub2 hX
  refine split_bool ?_ ?_
  · intro hb
    have hr1 : row = 1 := by simp at hb; lia
    wtm_at "go2"
    with_reducible refine r_mul (mul_l ?_ ?_) ?_
    · decide
    · decide
    wtm_at "go2"
    refine fin _ _ _ ?_
    simp [entry, hr1]
  · intro hb
    have hr1 : row ≠ 1 := by simp at hb; lia
    wtm_at "go2"
    with_reducible refine r_mul (mul_l ?_ ?_) ?_
    · decide
    · decide
    wtm_at "go2"
    refine fin _ _ _ ?_
    simp [entry, hr1]
end
end Mine
end
-- F27
section
namespace Mine
theorem isnot_none_same {M : Model} {A : Around} {E : Value → Shared → Prop} {s : Shared} {Q : Value → Shared → Prop} (h : Q (.bool false) s) : wpAny M A (compareOp .IsNot .none .none) Q E s := by
  have e : (Value.none == Value.none) = true := by rfl
  show wpAny M A (pure (.bool (!(Value.none == Value.none)))) Q E s
  rw [e]
  exact wpAny_pure h
section
variable {w : World} {A : Around} {E : Value → Shared → Prop} {K : Frag} {mg mb : Str → Option Value} {Q : Value → Shared → Prop} {h g : Heap} {gs : Array GenState} {d : Drawn} {t : Nat} {os : OsState} {L : Addr} {m : Str → Option Value}
theorem info_none (KF : FnK K 59 "_get_name_info" "_get_name_info" a_info b_info s_info [] .none .none 58 .none) (nU : nsIn K mainGlobals "UNKNOWN" = some (some (.ref 52))) {v : Value} {ex : List (Str × Value)}
    (G : Gd K mg mb h) (am : Amb A 3) (hn : (ex.map (·.1)).Nodup)
    (hb : ∀ pm, bindArgs (fnX "_get_name_info" "_get_name_info" a_info b_info s_info [] .none .none .none pm none (.ref 58) .none) ⟨[v, .none], ex⟩ = kwBinds [("name_index", v), ("get_name", .none)] ex "extrainfo")
    (q : ∀ a h' t' u, Sub h h' → h.objs.size ≤ a → h'.get? a = some (tupO [.ref 52, .str "" u]) → Q (.ref a) ⟨h', gs, d, t', os⟩) :
    wpAny (model PW w) A (call (.ref 59) [v, .none] ex) Q E ⟨h, gs, d, t, os⟩ := by
  refine call_fnKW am.room KF G (fun zz zz e => e) (Nat.le_refl _) (W := []) (by simp) hb hn ?_ (fun D => by with_unfolding_all rfl)
  intro L h₁ t₁ D k es F N hK hDs hWD hDL kp hD
  refine wpAny_execs_cons ?_
  wtm_at "go2"
  refine isnot_none_same ?_
  wtm_at "go2"
  rw [if_neg (by decide)]
  wtm_at "go2"
  with_reducible refine nm_K F G nU ?_
  wtm_at "go2"
  with_reducible refine r_newTuple F N ?_
  intro a h₂ F N l1 l2
  exact q a h₂ _ _ F.keep (Nat.le_trans hD (Nat.le_trans (Nat.le_of_lt hDL) (Nat.le_trans (Nat.le_of_lt (Fr.lt ‹Fr h L h₁ _›)) l2))) (n0 N)
end
end Mine
end
-- F9
section
namespace Mine
noncomputable def nmF (f : Int) : Str := match KTD.datumAt f nameTab with | some (.str s) => s | _ => baseText "0x" 16 f
theorem nmF_eq (f : Int) : (KTD.datumAt f nameTab).getD (.str (baseText "0x" 16 f)) = .str (nmF f) := by
  unfold nmF nameTab
  simp only [KTD.datumAt]
  repeat' split
  all_goals first | rfl | (simp_all; done) | skip
  all_goals grind
noncomputable def stepF (s : Int × List Str) (i : Nat) : Int × List Str := if Builtin.bitAnd s.1 (2 ^ i) != 0 then (Builtin.bitXor s.1 (2 ^ i), s.2 ++ [nmF (2 ^ i)]) else s
noncomputable def runF (X : Int) : Nat → Int × List Str
  | 0 => (X, [])
  | i + 1 => stepF (runF X i) i
theorem and_zero (i : Nat) (h : i < 32) : Builtin.bitAnd 0 (2 ^ i) = 0 := by
  have : ∀ i, i < 32 → Builtin.bitAnd 0 (2 ^ i) = 0 := by decide +kernel
  exact this i h
theorem runF_stop (X : Int) {j : Nat} (h : (runF X j).1 = 0) : ∀ k, j + k ≤ 32 → runF X (j + k) = runF X j
  | 0, _ => rfl
  | k + 1, hk => by
    have ih := runF_stop X h k (by lia)
    show stepF (runF X (j + k)) (j + k) = _
    rw [ih]
    unfold stepF
    rw [h, and_zero _ (by lia)]
    rfl
end Mine
end
-- F10
section
namespace Mine
theorem StrsAre.snoc {vs : List Value} {ys : List Str} (h : StrsAre vs ys) (y : Str) (t : Tok) : StrsAre (vs ++ [.str y t]) (ys ++ [y]) := by
  induction h with
  | nil => exact .cons y t .nil
  | cons k u _ ih => exact .cons k u ih
section
variable {prog : Program} {w : World} {A : Around} {E : Value → Shared → Prop} {h : Heap} {gs : Array GenState} {d : Drawn} {t : Nat} {os : OsState} {Q : Value → Shared → Prop}
theorem r_hex {i : Int} {u : Tok} (hsz : (baseText "0x" 16 i).length ≤ sizeLine) (q : Q (.str (baseText "0x" 16 i) t) ⟨h, gs, d, t + 1, os⟩) : wpAny (model prog w) A (call (.builtin "hex") [.int i u] []) Q E ⟨h, gs, d, t, os⟩ := P.hex_of_int q hsz
theorem r_get2 {a : Addr} {D : List (Int × PyData)} {k : Int} {tk u : Tok} {x : Str} (T : KTD.Keyed h a D) (hs : ∃ y, (KTD.datumAt k D).getD (.str x) = .str y)
    (q : ∀ y u', (KTD.datumAt k D).getD (.str x) = .str y → Q (.str y u') ⟨h, gs, d, t + 1, os⟩) : wpAny (model prog w) A (call (.builtin "dict.get") [.ref a, .int k tk, .str x u] []) Q E ⟨h, gs, d, t, os⟩ := by
  obtain ⟨y, hy⟩ := hs
  refine call_get2_intTab (T prog w) (dd := .str x) (.str x u) fun v hv => ?_
  rw [KTD.lookup_keyed, hy] at hv
  obtain ⟨u', rfl⟩ := hv.str_inv
  exact q y u' hy
theorem r_join {sep : Str} {u : Tok} {l : Addr} {vs : List Value} {ys : List Str} {c : Nat} (hl : h.get? l = some (listOf vs.toArray c)) (hi : StrsAre vs ys) (hok : (ys.map (·.length)).sum + ys.length * sep.length ≤ 16777216)
    (q : ∀ t' k, Q (.str (Txt.join sep ys) t') ⟨h, gs, d, k, os⟩) : wpAny (model prog w) A (call (.builtin "str.join") [.str sep u, .ref l] []) Q E ⟨h, gs, d, t, os⟩ :=
  join_list (isL hl) hi hok q
end
inductive FlagJ (gs : Array GenState) (nl : Addr) (X : Int) (i : Nat) (m : Str → Option Value) : List (Addr × Obj) → Array GenState → Prop
  | mk (hn0 : (runF X i).1 ≠ 0) (c : Nat) (vs : List Value) (tF : Tok) (hv : StrsAre vs (runF X i).2) (m1 : m "names" = some (.ref nl)) (m2 : m "flags" = some (.int (runF X i).1 tF)) : FlagJ gs nl X i m [(nl, listOf vs.toArray c)] gs
section
variable {w : World} {A : Around} {E : Value → Shared → Prop} {K : Frag} {mg mb : Str → Option Value} {Q : Value → Shared → Prop} {h : Heap} {gs : Array GenState} {d : Drawn} {t : Nat} {os : OsState}
structure FlgK (K : Frag) : Prop where
  fn : FnK K 29 "pretty_flags" "pretty_flags" a_flags b_flags s_flags [] .none .none 28 .none
  tab : ∀ h, K.In h → KTD.Keyed h 22 nameTab
  nT : nsIn K mainGlobals "COMPILER_FLAG_NAMES" = some (some (.ref 22))
  nR : nsIn K mainGlobals "range" = some none
  nH : nsIn K mainGlobals "hex" = some none
noncomputable def chkF (X : Int) : Bool := (runF X 32).1 == 0 && X != 0 && (runF X 32).2.length ≤ 32 && ((runF X 32).2.map (·.length)).sum ≤ 1000
theorem hex_len (i : Nat) (hi : i < 32) : (baseText "0x" 16 (2 ^ i)).length ≤ sizeLine := by
  have : ∀ i, i < 32 → (baseText "0x" 16 (2 ^ i)).length ≤ 100 := by decide +kernel
  have := this i hi
  rw [sizeLine_eq]; lia
theorem run_len (X : Int) : ∀ i, (runF X i).2.length ≤ i
  | 0 => by simp [runF]
  | i + 1 => by
    have := run_len X i
    simp only [runF, stepF]
    split <;> simp <;> lia
theorem flags_spec (FK : FlgK K) (G : Gd K mg mb h) (am : Amb A 4) {X : Int} {u : Tok} (hX : chkF X = true)
    (q : ∀ h' t' u', Sub h h' → Q (.str (Txt.join ", " (runF X 32).2) u') ⟨h', gs, d, t', os⟩) :
    wpAny (model PW w) A (call (.ref 29) [.int X u] []) Q E ⟨h, gs, d, t, os⟩ := by
  simp only [chkF, Bool.and_eq_true, beq_iff_eq, bne_iff_ne, decide_eq_true_eq] at hX
  obtain ⟨⟨⟨hX0, hXn⟩, hXl⟩, hXs⟩ := hX
  refine call_fn am.room FK.fn G (fun zz zz e => e) (Nat.le_refl _) (W := []) (by simp) (binds := [("flags", .int X u)]) (fun pm => BindsTo.of_eq (by kernel_rfl)) ?_
  intro L h₁ t₁ F N lx kp hL
  have am2 := Amb.deeper (n := 3) (env := envX "pretty_flags" s_flags L 29 (.ref 28) []) am
  refine wpAny_execs_cons ?_
  wtm_at "go2"
  with_reducible refine r_newList F N ?_
  intro nl h₂ F N l1 l2
  wtm_at "sts"
  intro h₃ F N
  wtm_at "go2"
  with_reducible refine nm_B F G FK.nR bb_range ?_
  wtm_at "go2"
  with_reducible refine r_range1 F N ?_
  intro r h₄ t' u' v' F N lr tk
  with_reducible refine' r_iterRange 32 F N (N.get ?a) ?b ?c ?e ?_
  case a => exact .head _
  case b => lia
  case c => lia
  case e => lia
  intro it h₅ F N lit
  have fin : ∀ vs h' t' m' c (news : List (Addr × Obj)), StrsAre vs (runF X 32).2 → Fr h L h' m' → m' "names" = some (.ref nl) → News h L h' ((nl, listOf vs.toArray c) :: news) → 
     wpAny (model PW w) (A.deeper (envX "pretty_flags" s_flags L 29 (.ref 28) [])) (execs (b_flags.drop 2) (envX "pretty_flags" s_flags L 29 (.ref 28) [])) (fun fl s' => Q (match fl with | .ret v => v | _ => .none) s') (fun zz zz => False) ⟨h', gs, d, t', os⟩ := by
    intro vs h' t' m' c news hS F hm N
    show wpAny _ _ (execs (_ :: _) _) _ _ _
    refine wpAny_execs_cons ?_
    wtm_at "go2"
    refine PySem.GM.join ?_
    wtm_at "go2"
    refine r_join (n0 N) hS ?_ ?_
    · have : (Str.ofString ", ").length = 2 := rfl
      rw [this]; lia
    intro t3 k3
    wtm_at "go2"
    exact q _ _ _ F.keep
  refine loop_for (Iter.range 0 32) am2.hd (FlagJ gs nl X)
    (fun zz zz zz zz zz zz zz zz => trivial) ?_ ?_ ⟨(show (runF X 0).1 ≠ 0 from hXn), 0, [], u, .nil, by with_unfolding_all rfl, by with_unfolding_all rfl⟩ F (News.sub N (by wtm_at "prm")) ?_ rfl
  · intro i m news gs' h t o v hi zq9 zq10 _ F N hne
    obtain ⟨hn0, c, vs, tF, hv, m1, m2⟩ := zq9
    obtain ⟨ti, rfl⟩ := zq10
    refine wpAny_pure ?_
    wtm_at "go2"
    wtm_at "sts"
    intro h₆ F N
    wtm_at "go2"
    with_reducible refine r_shl ?_ ?_ ?_ ?_
    · lia
    · lia
    · decide
    have ep : (1 : Int) * 2 ^ (0 + (i : Int)).toNat = 2 ^ i := by
      rw [Int.one_mul]; congr 1; lia
    rw [ep]
    wtm_at "sts"
    intro h₇ F N
    wtm_at "go2"
    with_reducible refine r_and ?_
    wtm_at "go2"
    have hnl := hne _ (.head _)
    refine split_bool ?_ ?_
    · intro hb
      have e1 : runF X (i + 1) = (Builtin.bitXor (runF X i).1 (2 ^ i), (runF X i).2 ++ [nmF (2 ^ i)]) := by
        show stepF (runF X i) i = _
        unfold stepF
        rw [if_pos hb]
      wtm_at "go2"
      with_reducible refine r_listMeth (n1 N) PySem.F.slot_list_append PySem.F.type_list_append ?_
      wtm_at "go2"
      with_reducible refine nm_K F G FK.nT ?_
      refine KTD.getMethod_keyed (FK.tab _ (G.X.keeps F.keep)) (fun zz zz e => e) ?_
      wtm_at "go2"
      with_reducible refine nm_B F G FK.nH bb_hex ?_
      wtm_at "go2"
      with_reducible refine r_hex ?_ ?_
      · exact hex_len i hi
      wtm_at "go2"
      refine r_get2 (FK.tab _ (G.X.keeps F.keep)) ⟨_, nmF_eq _⟩ ?_
      intro y uy hy
      rw [nmF_eq] at hy
      cases hy
      wtm_at "go2"
      have N2 : News _ L h₇ [(nl, listOf vs.toArray c), (it, o)] := News.sub N (by wtm_at "prm")
      have hlen := StrsAre.len_eq hv
      have hrl := run_len X i
      with_reducible refine r_append F N2 ?_ ?_ ?_
      · exact ne_cons (Ne.symm hnl) ne_nil
      · rw [List.size_toArray, sizeLine_eq]; lia
      intro h₈ F N hsz
      rw [List.push_toArray] at N
      wtm_at "go2"
      with_reducible refine r_ixor ?_
      wtm_at "sts"
      intro h₉ F N
      wtm_at "go2"
      have hv' := StrsAre.snoc hv (nmF (2 ^ i)) uy
      refine split_bool ?_ ?_
      · intro hz
        have hz0 : (runF X (i + 1)).1 = 0 := by rw [e1]; simpa using hz
        have hs := runF_stop X hz0 (32 - (i + 1)) (Nat.le_of_eq (Nat.add_sub_of_le (Nat.succ_le_of_lt (by assumption))))
        rw [show i + 1 + (32 - (i + 1)) = 32 from Nat.add_sub_of_le (Nat.succ_le_of_lt (by assumption))] at hs
        wtm_at "go2"
        with_reducible refine wpAny_Break ?_
        refine fin _ h₉ _ _ (c + 1) [(it, o)] (by rw [hs, e1]; exact hv') F m1 (News.sub N (by wtm_at "prm"))
      · intro hz
        wtm_at "go2"
        refine ⟨_, _, _, _, _, F, News.sub (l' := (it, o) :: (nl, listOf (vs ++ [Value.str (nmF (2 ^ i)) uy]).toArray (c + 1)) :: []) N (by wtm_at "prm"), ?_, ?_, c + 1, _, _, ?_, m1, congrArg (fun z => some (Value.int z _)) (congrArg Prod.fst e1.symm)⟩
        · exact ne_cons hnl ne_nil
        · rw [e1]; simpa using hz
        · rw [e1]; exact hv'
    · intro hb
      have e1 : runF X (i + 1) = runF X i := by
        show stepF (runF X i) i = _
        unfold stepF
        rw [if_neg (by simpa using hb)]
      wtm_at "go2"
      refine ⟨_, _, _, _, _, F, N, ?_, ?_, c, _, tF, ?_, m1, ?_⟩
      · exact ne_cons hnl ne_nil
      · rw [e1]; exact hn0
      · rw [e1]; exact hv
      · rw [e1]; exact m2
  · intro m news gs' h t zq5 F N
    obtain ⟨hn, -, -, -, -, -, -⟩ := zq5
    exact absurd hX0 hn
  · exact ne_cons (Nat.ne_of_lt (lit (nl, listOf ([] : List Value).toArray 0) (by wtm_at "mm"))) ne_nil
end
end Mine
end
-- F11
section
namespace Mine
noncomputable def nm (j : Nat) : Str := nmF (2 ^ j)
noncomputable def marksOf (base : Nat) : List Str := (((List.range 32).map nm).drop base).take 4
theorem StrsAre.append {vs vs' : List Value} {ys ys' : List Str} (h : StrsAre vs ys) (h' : StrsAre vs' ys') : StrsAre (vs ++ vs') (ys ++ ys') := by
  induction h with
  | nil => exact h'
  | cons k u _ ih => exact .cons k u ih
theorem StrsAre.drop {vs : List Value} {ys : List Str} (h : StrsAre vs ys) : ∀ k : Nat, StrsAre (vs.drop k) (ys.drop k) := by
  induction h with
  | nil => intro k; simp; exact .nil
  | cons x u r ih => intro k; cases k with
    | zero => exact .cons x u r
    | succ k => exact ih k
theorem StrsAre.take {vs : List Value} {ys : List Str} (h : StrsAre vs ys) : ∀ k : Nat, StrsAre (vs.take k) (ys.take k) := by
  induction h with
  | nil => intro k; simp; exact .nil
  | cons x u r ih => intro k; cases k with
    | zero => exact .nil
    | succ k => exact .cons x u (ih k)
theorem nm_hi (k : Nat) (h : 10 ≤ k) (h2 : k < 32) : baseText "0x" 16 (2 ^ k) = nm k := by
  have : ∀ k, k < 32 → 10 ≤ k → baseText "0x" 16 (2 ^ k) = nm k := by decide +kernel
  exact this k h2 h
section
variable {w : World} {A : Around} {E : Value → Shared → Prop} {K : Frag} {mg mb : Str → Option Value} {Q : Value → Shared → Prop} {h : Heap} {gs : Array GenState} {d : Drawn} {t : Nat} {os : OsState}
theorem marks_spec (KF : FnK K 178 "_law_marks" "_law_marks" a_marks b_marks s_marks [] .none .none 177 .none) (FK : FlgK K) (G : Gd K mg mb h) (am : Amb A 4) {base : Nat} {u : Tok} (hb : base < 29)
    (q : ∀ l h' t' vs c, Sub h h' → h.objs.size ≤ l → h'.get? l = some (listOf (List.toArray vs) c) → StrsAre vs (marksOf base) → Q (.ref l) ⟨h', gs, d, t', os⟩) :
    wpAny (model PW w) A (call (.ref 178) [.int base u] []) Q E ⟨h, gs, d, t, os⟩ := by
  refine call_fn am.room KF G (fun zz zz e => e) (Nat.le_refl _) (W := []) (by simp) (binds := [("base", .int base u)]) (fun pm => BindsTo.of_eq (by kernel_rfl)) ?_
  intro L h₁ t₁ F N lx kp hL
  have am2 := Amb.deeper (n := 3) (env := envX "_law_marks" s_marks L 178 (.ref 177) []) am
  refine wpAny_execs_cons ?_
  wtm_at "go2"
  with_reducible refine r_newList F N ?_
  intro l1 h₂ F N _ _
  wtm_at "sts"
  intro h₃ F N
  wtm_at "go2"
  with_reducible refine r_newList F N ?_
  intro l2 h₄ F N _ _
  wtm_at "go2"
  with_reducible refine r_addL F N (n1 N) (n0 N) (by simp [sizeLine_eq]) ?_
  intro l3 h₅ F N _ k5 _
  wtm_at "go2"
  with_reducible refine x_LC ?_
  wtm_at "go2"
  with_reducible refine nm_B F G FK.nR bb_range ?_
  wtm_at "go2"
  with_reducible refine r_range2 F N ?_
  intro r h₆ t' u' v' F N lr tk
  with_reducible refine' r_iterRange 22 F N (N.get ?a) ?b ?c ?e ?_
  case a => exact .head _
  case b => lia
  case c => lia
  case e => lia
  intro it h₇ F N lit
  refine r_compForP (Iter.range 10 22) am2.hd F N (lt_ne lit) rfl (fun i ys => StrsAre ys ((List.range i).map fun j => nm (10 + j))) .nil ?_ ?_
  · intro g' acc D sg' kN nsL hsz
    refine ⟨fun zz zz => trivial, ?_⟩
    rintro i m ys c h t o v hi hS F N hai - ⟨ti, rfl⟩
    have G' := G.keeps sg'
    refine wpAny_pure ?_
    wtm_at "go2"
    wtm_at "sts"
    intro h₈ F N
    wtm_at "go2"
    rw [if_pos rfl]
    refine r_emit rfl ?_
    wtm_at "go2"
    with_reducible refine nm_B F G' FK.nH bb_hex ?_
    wtm_at "go2"
    with_reducible refine r_shl ?_ ?_ ?_ ?_
    · lia
    · lia
    · decide
    have ep : (1 : Int) * 2 ^ (10 + (i : Int)).toNat = 2 ^ (10 + i) := by
      rw [Int.one_mul, show (10 + (i : Int)).toNat = 10 + i by lia]
    rw [ep]
    wtm_at "go2"
    with_reducible refine r_hex ?_ ?_
    · exact hex_len _ (by lia)
    rw [nm_hi _ (by lia) (by lia)]
    have hlen := StrsAre.len_eq hS
    refine papp F N hai ?_ ?_
    · rw [hlen, sizeLine_eq]; simp; lia
    · rw [List.range_succ, List.map_append]
      exact StrsAre.snoc hS _ _
  · intro acc ys c h'' t'' hS F N hna hacc
    with_reducible refine r_addL F N (n2 N) (n0 N) ?_ ?_
    · have := StrsAre.len_eq hS
      rw [this, sizeLine_eq]; simp
    intro l4 h₈ F N _ k8 _
    wtm_at "sts"
    intro h₉ F N
    wtm_at "go2"
    with_reducible refine x_Slice (part_some ?_)
    wtm_at "go2"
    with_reducible refine part_some ?_
    wtm_at "go2"
    refine r_slice F N ?_
    intro sl h10 F N _ k10 _
    refine r_sliceL F N (n1 N) (.head _) (.int _ _) (.int _ _) ?_ ?_ (by with_unfolding_all rfl)
    · have := StrsAre.len_eq hS
      simp [sizeLine_eq, this]
    intro l5 h11 F N _ _ hl5
    have hLl := Fr.lt ‹Fr h L h10 _›
    wtm_at "go2"
    have hall := fun a1 a2 a3 a4 a5 a6 a7 a8 b1 b2 => StrsAre.append (StrsAre.append (.cons "OPTIMIZED" a1 (.cons "NEWLOCALS" a2 (.cons "VARARGS" a3 (.cons "VARKEYWORDS" a4 (.cons "NESTED" a5 (.cons "GENERATOR" a6 (.cons "NOFREE" a7 (.cons "COROUTINE" a8 .nil)))))))) (.cons "ITERABLE_COROUTINE" b1 (.cons "ASYNC_GENERATOR" b2 .nil))) hS
    have hlen := StrsAre.len_eq hS
    have e4 : ((base : Int) + 4) = ((base + 4 : Nat) : Int) := by lia
    rw [e4, slicePick_run _ base (base + 4) (by simp [hlen]; lia) (by lia)] at N
    refine q l5 h11 _ _ 0 F.keep ?_ (n0 N) ?_
    · exact Nat.le_trans hL (Nat.le_trans (Nat.le_of_lt hLl) hl5)
    · have em : marksOf base = (((([("OPTIMIZED" : Str), "NEWLOCALS", "VARARGS", "VARKEYWORDS", "NESTED", "GENERATOR", "NOFREE", "COROUTINE"] ++ [("ITERABLE_COROUTINE" : Str), "ASYNC_GENERATOR"]) ++ (List.range 22).map fun j => nm (10 + j)).drop base).take (base + 4 - base)) := by
        have : (List.range 32).map nm = (([("OPTIMIZED" : Str), "NEWLOCALS", "VARARGS", "VARKEYWORDS", "NESTED", "GENERATOR", "NOFREE", "COROUTINE"] ++ [("ITERABLE_COROUTINE" : Str), "ASYNC_GENERATOR"]) ++ (List.range 22).map fun j => nm (10 + j)) := by decide +kernel
        unfold marksOf
        rw [this, show base + 4 - base = 4 by lia]
      rw [em]
      exact StrsAre.take (StrsAre.drop (hall _ _ _ _ _ _ _ _ _ _) base) _
end
end Mine
end
-- F12
section
namespace Mine
noncomputable def nmT : List (List Nat) := [
  [79, 80, 84, 73, 77, 73, 90, 69, 68],
  [78, 69, 87, 76, 79, 67, 65, 76, 83],
  [86, 65, 82, 65, 82, 71, 83],
  [86, 65, 82, 75, 69, 89, 87, 79, 82, 68, 83],
  [78, 69, 83, 84, 69, 68],
  [71, 69, 78, 69, 82, 65, 84, 79, 82],
  [78, 79, 70, 82, 69, 69],
  [67, 79, 82, 79, 85, 84, 73, 78, 69],
  [73, 84, 69, 82, 65, 66, 76, 69, 95, 67, 79, 82, 79, 85, 84, 73, 78, 69],
  [65, 83, 89, 78, 67, 95, 71, 69, 78, 69, 82, 65, 84, 79, 82],
  [48, 120, 52, 48, 48],
  [48, 120, 56, 48, 48],
  [48, 120, 49, 48, 48, 48],
  [48, 120, 50, 48, 48, 48],
  [48, 120, 52, 48, 48, 48],
  [48, 120, 56, 48, 48, 48],
  [48, 120, 49, 48, 48, 48, 48],
  [48, 120, 50, 48, 48, 48, 48],
  [48, 120, 52, 48, 48, 48, 48],
  [48, 120, 56, 48, 48, 48, 48],
  [48, 120, 49, 48, 48, 48, 48, 48],
  [48, 120, 50, 48, 48, 48, 48, 48],
  [48, 120, 52, 48, 48, 48, 48, 48],
  [48, 120, 56, 48, 48, 48, 48, 48],
  [48, 120, 49, 48, 48, 48, 48, 48, 48],
  [48, 120, 50, 48, 48, 48, 48, 48, 48],
  [48, 120, 52, 48, 48, 48, 48, 48, 48],
  [48, 120, 56, 48, 48, 48, 48, 48, 48],
  [48, 120, 49, 48, 48, 48, 48, 48, 48, 48],
  [48, 120, 50, 48, 48, 48, 48, 48, 48, 48],
  [48, 120, 52, 48, 48, 48, 48, 48, 48, 48],
  [48, 120, 56, 48, 48, 48, 48, 48, 48, 48]]
noncomputable def nmLit (j : Nat) : Str := ⟨(nmT.getD j []).toArray⟩
theorem nm_lits : ((List.range 32).all fun j => nm j == nmLit j) = true := by decide +kernel
theorem nm_lit {j : Nat} (h : j < 32) : nm j = nmLit j := by
  have := List.all_eq_true.mp nm_lits j (List.mem_range.mpr h)
  simpa using this
noncomputable def bitsOf (T : Nat) : List Nat := (List.range 4).filter fun k => T / 2 ^ k % 2 == 1
noncomputable def wordsL (base T : Nat) : List Str := (bitsOf T).map (fun k => nmLit (base + k))
noncomputable def wordsOf (base T : Nat) : List Str := (bitsOf T).map (fun k => nm (base + k))
noncomputable def sepS : Str := ⟨#[44, 32]⟩
noncomputable def splitOk (T : Nat) : Bool := (List.range 29).all fun b => Txt.split (Txt.join sepS (wordsL b T)) sepS == wordsL b T
theorem split_1 : splitOk 1 = true := by decide +kernel
theorem split_2 : splitOk 2 = true := by decide +kernel
theorem split_3 : splitOk 3 = true := by decide +kernel
theorem split_4 : splitOk 4 = true := by decide +kernel
theorem split_5 : splitOk 5 = true := by decide +kernel
theorem split_6 : splitOk 6 = true := by decide +kernel
theorem split_7 : splitOk 7 = true := by decide +kernel
theorem split_8 : splitOk 8 = true := by decide +kernel
theorem split_9 : splitOk 9 = true := by decide +kernel
theorem split_all {T : Nat} (h1 : 1 ≤ T) (h2 : T ≤ 9) : splitOk T = true := by
  have : T = 1 ∨ T = 2 ∨ T = 3 ∨ T = 4 ∨ T = 5 ∨ T = 6 ∨ T = 7 ∨ T = 8 ∨ T = 9 := by lia
  rcases this with rfl | rfl | rfl | rfl | rfl | rfl | rfl | rfl | rfl
  · exact split_1
  · exact split_2
  · exact split_3
  · exact split_4
  · exact split_5
  · exact split_6
  · exact split_7
  · exact split_8
  · exact split_9
theorem bits_lt {T k : Nat} (h : k ∈ bitsOf T) : k < 4 := by
  unfold bitsOf at h
  exact List.mem_range.mp (List.mem_filter.mp h).1
theorem words_lit {base T : Nat} (h : base < 29) : wordsOf base T = wordsL base T := by
  unfold wordsOf wordsL
  refine List.map_congr_left fun k hk => nm_lit ?_
  have := bits_lt hk
  lia
theorem sepS_eq : (", " : Str) = sepS := by decide +kernel
theorem words_split {base T : Nat} (h : base < 29) (h1 : 1 ≤ T) (h2 : T ≤ 9) : Txt.split (Txt.join ", " (wordsOf base T)) ", " = wordsOf base T := by
  rw [words_lit h, sepS_eq]
  have := List.all_eq_true.mp (split_all h1 h2) base (List.mem_range.mpr h)
  simpa using this
noncomputable def stepI (s : Int × List Nat) (i : Nat) : Int × List Nat := if Builtin.bitAnd s.1 (2 ^ i) != 0 then (Builtin.bitXor s.1 (2 ^ i), s.2 ++ [i]) else s
noncomputable def runI (X : Int) : Nat → Int × List Nat
  | 0 => (X, [])
  | i + 1 => stepI (runI X i) i
theorem runI_ok : ((List.range 29).all fun b => (List.range 9).all fun t => runI (((t + 1 : Nat) : Int) * 2 ^ b) 32 == (0, (bitsOf (t + 1)).map (b + ·))) = true := by decide +kernel
theorem runF_I (X : Int) : ∀ i, runF X i = ((runI X i).1, (runI X i).2.map nm)
  | 0 => rfl
  | i + 1 => by
    show stepF (runF X i) i = _
    rw [runF_I X i]
    show stepF _ i = ((stepI (runI X i) i).1, (stepI (runI X i) i).2.map nm)
    unfold stepF stepI
    dsimp only
    split
    · simp [nm]
    · rfl
theorem runF_ok {base T : Nat} (h : base < 29) (h1 : 1 ≤ T) (h2 : T ≤ 9) : runF ((T : Int) * 2 ^ base) 32 = (0, wordsOf base T) := by
  have h3 := List.all_eq_true.mp (List.all_eq_true.mp runI_ok base (List.mem_range.mpr h)) (T - 1) (List.mem_range.mpr (by lia))
  rw [show T - 1 + 1 = T by lia] at h3
  have h4 : runI ((T : Int) * 2 ^ base) 32 = (0, (bitsOf T).map (base + ·)) := by simpa using h3
  rw [runF_I, h4]
  simp [wordsOf, List.map_map, Function.comp_def]
theorem nm_lens : ((List.range 32).all fun j => (nmLit j).length ≤ 20) = true := by decide +kernel
theorem words_len {base T : Nat} (h : base < 29) : ∀ x ∈ wordsOf base T, x.length ≤ 20 := by
  rw [words_lit h]
  intro x hx
  obtain ⟨k, hk, rfl⟩ := List.mem_map.mp hx
  have := bits_lt hk
  simpa using List.all_eq_true.mp nm_lens (base + k) (List.mem_range.mpr (by lia))
theorem bits_len (T : Nat) : (bitsOf T).length ≤ 4 := by
  have := List.length_filter_le (fun k => T / 2 ^ k % 2 == 1) (List.range 4)
  simpa [bitsOf] using this
theorem sum_le {l : List Str} {n : Nat} (h : ∀ x ∈ l, x.length ≤ n) : (l.map (·.length)).sum ≤ l.length * n := by
  induction l with
  | nil => simp
  | cons a r ih =>
    have h1 := h a (.head _)
    have h2 := ih fun x hx => h x (.tail _ hx)
    simp only [List.map_cons, List.sum_cons, List.length_cons, Nat.succ_mul]
    lia
theorem chkF_ok {base T : Nat} (h : base < 29) (h1 : 1 ≤ T) (h2 : T ≤ 9) : chkF ((T : Int) * 2 ^ base) = true := by
  have hs := sum_le (words_len (base := base) (T := T) h)
  have hl : (wordsOf base T).length ≤ 4 := by simpa [wordsOf] using bits_len T
  have hp : (0 : Int) < (T : Int) * 2 ^ base := Int.mul_pos (by lia) (Int.pow_pos (by decide))
  simp only [chkF, runF_ok h h1 h2, Bool.and_eq_true, beq_iff_eq, bne_iff_ne, decide_eq_true_eq]
  refine ⟨⟨⟨trivial, by lia⟩, by lia⟩, by lia⟩
theorem range_part : ((List.range 29).all fun b => ((List.range 32).drop b).take 4 == (List.range 4).map (b + ·)) = true := by decide +kernel
theorem marks_eq {base : Nat} (h : base < 29) : marksOf base = (List.range 4).map fun k => nm (base + k) := by
  have h3 := List.all_eq_true.mp range_part base (List.mem_range.mpr h)
  have h4 : ((List.range 32).drop base).take 4 = (List.range 4).map (base + ·) := by simpa using h3
  unfold marksOf
  rw [← List.map_drop, ← List.map_take, h4, List.map_map]
  rfl
theorem nm_neqs : ((List.range 32).all fun j => (List.range j).all fun i => nmLit i != nmLit j) = true := by decide +kernel
theorem nm_ne {i j : Nat} (h : i < j) (hj : j < 32) : nm i ≠ nm j := by
  have := List.all_eq_true.mp (List.all_eq_true.mp nm_neqs j (List.mem_range.mpr hj)) i (List.mem_range.mpr h)
  rw [nm_lit hj, nm_lit (by lia)]
  simpa using this
theorem bits_last : ((List.range 9).all fun t => (bitsOf (t + 1)).getLast? == some (Nat.log2 (t + 1)) && Nat.log2 (t + 1) < 4) = true := by decide +kernel
theorem bits_log {T : Nat} (h1 : 1 ≤ T) (h2 : T ≤ 9) : (bitsOf T).getLast? = some (Nat.log2 T) ∧ Nat.log2 T < 4 := by
  have := List.all_eq_true.mp bits_last (T - 1) (List.mem_range.mpr (by lia))
  rw [show T - 1 + 1 = T by lia] at this
  simpa using this
end Mine
end
-- F13
section
namespace Mine
section
variable {w : World} {A : Around} {E : Value → Shared → Prop} {K : Frag} {mg mb : Str → Option Value} {Q : Value → Shared → Prop} {h : Heap} {gs : Array GenState} {d : Drawn} {t : Nat} {os : OsState}
theorem nm_oks : ((List.range 32).all fun j => PyData.strOk (nmLit j)) = true := by decide +kernel
theorem words_ok {base T : Nat} (hb : base < 29) : (wordsOf base T).all PyData.strOk = true := by
  rw [words_lit hb, List.all_eq_true]
  intro x hx
  obtain ⟨k, hk, rfl⟩ := List.mem_map.mp hx
  have := bits_lt hk
  exact List.all_eq_true.mp nm_oks (base + k) (List.mem_range.mpr (by lia))
theorem piled_le {l : List Str} (h : ∀ x ∈ l, x.length ≤ 20) : piled l ≤ l.length * 22 := by
  induction l with
  | nil => simp [piled]
  | cons a r ih =>
    have h1 := h a (.head _)
    have h2 := ih fun x hx => h x (.tail _ hx)
    simp only [piled, List.map_cons, List.sum_cons, List.length_cons, Nat.succ_mul] at h2 ⊢
    lia
theorem words_fit {base T : Nat} (hb : base < 29) (h1 : 1 ≤ T) (h2 : T ≤ 9) : (Txt.join ", " (wordsOf base T)).length + 2 ≤ sizeLine := by
  have hne : wordsOf base T ≠ [] := by
    have := (bits_log h1 h2).1
    intro e
    have e2 : bitsOf T = [] := List.map_eq_nil_iff.mp e
    rw [e2] at this; cases this
  have hj : (Txt.join ", " (wordsOf base T)).length + 2 = piled (wordsOf base T) := by
    show (Builtin.Str.glued ", " (wordsOf base T)).length + 2 = _
    rw [StrLaws.glued_eq_join]
    exact join_length_add _ hne
  have hp := piled_le (words_len (base := base) (T := T) hb)
  have hl : (wordsOf base T).length ≤ 4 := by simpa [wordsOf] using bits_len T
  rw [hj, sizeLine_eq]; lia
theorem block_spec (KF : FnK K 202 "_law_block" "_law_block" a_block b_block s_block [] .none .none 201 .none) (FK : FlgK K) (nF : nsIn K mainGlobals "pretty_flags" = some (some (.ref 29))) (G : Gd K mg mb h) (am : Amb A 7) {base many few : Nat} {u1 u2 u3 : Tok} {l : Addr} {ms : List Value} {c : Nat} (hb : base < 29)
    (hf1 : 1 ≤ few) (hf2 : few ≤ many) (hm : many ≤ 9) (hl : h.get? l = some (listOf ms.toArray c)) (hS : StrsAre ms (marksOf base))
    (q : ∀ h' t' u, Sub h h' → Q (.int (2 ^ Nat.log2 (many / few)) u) ⟨h', gs, d, t', os⟩) :
    wpAny (model PW w) A (call (.ref 202) [.int many u1, .int few u2, .int base u3, .ref l] []) Q E ⟨h, gs, d, t, os⟩ := by
  have hT1 : 1 ≤ many / few := (Nat.one_le_div_iff (by lia)).mpr hf2
  have hT2 : many / few ≤ 9 := Nat.le_trans (Nat.div_le_self _ _) hm
  refine call_fnC am.room KF G (fun zz zz e => e) (Nat.le_refl _) (W := []) (by simp) (binds := [("many", .int many u1), ("few", .int few u2), ("base", .int base u3), ("marks", .ref l)]) (fun pm => BindsTo.of_eq (by kernel_rfl)) ?_
  intro L h₁ t₁ cells F N CA lx kp hL
  have am2 := Amb.deeper (n := 6) (env := envX "_law_block" s_block L 202 (.ref 201) (cellsFrom (L + 1) s_block.names [])) am
  obtain ⟨o1, o2, rfl, hC1, hC2⟩ := CellsAre.two CA
  refine wpAny_execs_cons ?_
  wtm_at "go2"
  with_reducible refine r_div ?_ ?_ ?_
  · lia
  · lia
  have eT : (many : Int) / (few : Int) = ((many / few : Nat) : Int) := by simp
  rw [eT]
  generalize hT : many / few = T at hT1 hT2 q ⊢
  rw [List.append_nil] at N
  refine r_stC F N ?_ hC1 ?_
  · exact ne_cons (Nat.ne_of_lt (Nat.lt_succ_self _)) ne_nil
  intro h₂ o1' F N hC1'
  wtm_at "go2"
  with_reducible refine x_baseC ?_
  wtm_at "go2"
  with_reducible refine nm_K F G nF ?_
  wtm_at "go2"
  with_reducible refine nm_C (n0 N) hC1' ?_
  wtm_at "go2"
  with_reducible refine r_shl ?_ ?_ ?_ ?_
  · lia
  · lia
  · have : ((T : Int)).natAbs = T := by simp
    lia
  rw [show ((base : Int)).toNat = base from rfl]
  wtm_at "go2"
  refine ⟨Kp.fnK FK.fn (G.X.keeps F.keep), ?_⟩
  refine flags_spec FK (G.keeps F.keep) (am2.mono (by decide)) (chkF_ok hb hT1 hT2) ?_
  rw [runF_ok hb hT1 hT2]
  intro h₃ t₃ u k3
  have F := Fr.sub F k3
  have N := News.keep N k3
  refine PySem.GM.split ?_
  wtm_at "go2"
  refine r_split F N (by decide +kernel) ?_ ?_
  · exact words_fit hb hT1 hT2
  intro wl ws h₄ k hW F N lw
  rw [words_split hb hT1 hT2] at hW
  wtm_at "sts"
  intro h₅ F N
  wtm_at "go2"
  with_reducible refine x_LC ?_
  wtm_at "go2"
  with_reducible refine nm_B F G FK.nR bb_range ?_
  wtm_at "go2"
  with_reducible refine r_range1 F N ?_
  intro r h₆ t' u' v' F N lr tk
  with_reducible refine' r_iterRange 4 F N (N.get ?a) ?b ?c ?e ?_
  case a => exact .head _
  case b => lia
  case c => lia
  case e => lia
  intro it h₇ F N lit
  refine r_compForP (Iter.range 0 4) am2.hd F N (lt_ne lit) rfl (fun i ys => StrsAre ys (((List.range i).filter fun k => T / 2 ^ k % 2 == 1).map fun k => nm (base + k))) .nil ?_ ?_
  · intro g' acc D sg' kN nsL hsz
    refine ⟨fun zz zz => trivial, ?_⟩
    rintro i m ys c h t o v hi hY F N hai - ⟨ti, rfl⟩
    have G' := G.keeps sg'
    refine wpAny_pure ?_
    wtm_at "go2"
    wtm_at "sts"
    intro h₈ F N
    wtm_at "go2"
    have ht : h₈.get? (L + 1 + 1) = some o1' := F.keep _ _ (kN (L + 1 + 1, o1') (by wtm_at "mm"))
    have hk : h₈.get? (L + 1) = some o2 := F.keep _ _ (kN (L + 1, o2) (by wtm_at "mm"))
    with_reducible refine nm_C ht hC1' ?_
    wtm_at "go2"
    with_reducible refine r_shr ?_ ?_
    · lia
    wtm_at "go2"
    with_reducible refine r_and ?_
    wtm_at "go2"
    have eb : (Builtin.bitAnd ((T : Int) / 2 ^ (0 + (i : Int)).toNat) 1 != 0) = (T / 2 ^ i % 2 == 1) := by
      have hall : ((List.range 10).all fun T => (List.range 4).all fun i => (Builtin.bitAnd ((T : Int) / 2 ^ i) 1 != 0) == (T / 2 ^ i % 2 == 1)) = true := by decide +kernel
      have := List.all_eq_true.mp (List.all_eq_true.mp hall T (List.mem_range.mpr (by lia))) i (List.mem_range.mpr hi)
      rw [show (0 + (i : Int)).toNat = i from zt0]
      simpa using this
    rw [eb]
    refine split_bool ?_ ?_
    · intro hbit
      refine r_emit rfl ?_
      wtm_at "go2"
      with_reducible refine nm_C hk (hC2.trans (by with_unfolding_all rfl)) ?_
      wtm_at "go2"
      have hmk : (marksOf base)[i]? = some (nm (base + i)) := by rw [marks_eq hb]; simp [hi]
      obtain ⟨tm, htm⟩ := StrsAre.at hS hmk
      with_reducible refine r_subL (F.keep _ _ (sg' _ _ hl)) ?_ ?_ (x := .str (nm (base + i)) tm) ?_ ?_
      · lia
      · lia
      · rw [show (0 + (i : Int)).toNat = i from zt0]; simpa using htm
      have hlen := StrsAre.len_eq hY
      refine papp F N hai ?_ ?_
      · rw [hlen, sizeLine_eq, List.length_map]
        have := List.length_filter_le (fun k => T / 2 ^ k % 2 == 1) (List.range i)
        rw [List.length_range] at this
        lia
      · rw [List.range_succ, List.filter_append, List.map_append]
        simp only [List.filter_cons, hbit, if_true, List.filter_nil]
        exact StrsAre.snoc hY _ _
    · intro hbit
      refine pnext F N hai ?_
      · rw [List.range_succ, List.filter_append, List.map_append]
        simp only [List.filter_cons, hbit, Bool.false_eq_true, if_false, List.filter_nil, List.map_nil, List.append_nil]
        exact hY
  · intro acc ys c h'' t'' hY F N hna hacc
    wtm_at "go2"
    have hlt9 := am2.un
    refine r_neStrs (n2 N) hW (n0 N) hY (by lia) ?_ ?_ ?_
    · exact words_ok hb
    · exact words_ok hb
    rw [show decide (wordsOf base T = List.map (fun k => nm (base + k)) (List.filter (fun k => T / 2 ^ k % 2 == 1) (List.range 4))) = true from decide_eq_true rfl]
    wtm_at "go2"
    rw [if_neg (by decide)]
    wtm_at "go2"
    with_reducible refine nm_C (n4 N) (hC2.trans (by with_unfolding_all rfl)) ?_
    wtm_at "go2"
    with_reducible refine r_listMeth (F.keep _ _ hl) PySem.F.slot_list_index PySem.F.type_list_index ?_
    wtm_at "go2"
    with_reducible refine r_neg ?_
    obtain ⟨hlast, hl4⟩ := bits_log hT1 hT2
    have hwl := StrsAre.len_eq hW
    have hbl : (bitsOf T).length ≠ 0 := by intro e; rw [List.length_eq_zero_iff.mp e] at hlast; cases hlast
    have hbl4 := bits_len T
    have hwn : (wordsOf base T).length = (bitsOf T).length := by simp [wordsOf]
    have hwlast : (wordsOf base T)[(bitsOf T).length - 1]? = some (nm (base + Nat.log2 T)) := by
      rw [List.getLast?_eq_getElem?] at hlast
      simp [wordsOf, hlast]
    obtain ⟨tl, htl⟩ := StrsAre.at hW hwlast
    have h1w : 1 ≤ ws.length := by lia
    with_reducible refine r_subLn (n2 N) ?_ ?_ ?_ (x := .str (nm (base + Nat.log2 T)) tl) ?_ ?_
    · lia
    · rw [List.size_toArray]; exact zng h1w
    · lia
    · rw [List.size_toArray, zt1 h1w, show ws.length - 1 = (bitsOf T).length - 1 by lia]
      simpa using htl
    wtm_at "go2"
    have hml := StrsAre.len_eq hS
    have hm4 : (marksOf base).length = 4 := by rw [marks_eq hb]; simp
    refine r_index (j := Nat.log2 T) (F.keep _ _ hl) hS ?_ ?_ (by lia) ?_
    · rw [marks_eq hb]; simp [hl4]
    · intro i hi e
      rw [marks_eq hb] at e
      have e2 : nm (base + i) = nm (base + Nat.log2 T) := by
        have : i < 4 := by lia
        simpa [this] using e
      exact nm_ne (by lia) (by lia) e2
    with_reducible refine r_shl ?_ ?_ ?_ ?_
    · lia
    · lia
    · decide
    rw [Int.one_mul, show ((Nat.log2 T : Int)).toNat = Nat.log2 T from rfl]
    exact q _ _ _ F.keep
end
end Mine
end
-- F17
section
namespace Mine
theorem CellsAre.three {cm : Str → Option Value} {n n' n'' : Str} {c c' c'' : Addr} {cells : List (Addr × Obj)} (x : CellsAre cm [(n, c), (n', c'), (n'', c'')] cells) :
    ∃ o o' o'', cells = [(c, o), (c', o'), (c'', o'')] ∧ o.data = .cell (cm n) ∧ o'.data = .cell (cm n') ∧ o''.data = .cell (cm n'') := by
  cases x with | cons h r => obtain ⟨o', o'', rfl, h', h''⟩ := CellsAre.two r; exact ⟨_, o', o'', rfl, h, h', h''⟩
theorem IntsAre.at_ {vs : List Value} {ns : List Int} (h : IntsAre vs ns) {i : Nat} (hi : i < ns.length) : ∃ u, vs[i]? = some (.int (ns.getD i 0) u) := by
  induction h generalizing i with
  | nil => simp at hi
  | cons k u r ih =>
    cases i with
    | zero => exact ⟨u, rfl⟩
    | succ i => simpa using ih (by simpa using hi)
noncomputable abbrev tEnv (L : Addr) : Env := envX "_law_taken" s_taken L 209 (.ref 208) (cellsFrom (L + 1) s_taken.names [])
structure TknK (K : Frag) : Prop where
  fn : FnK K 209 "_law_taken" "_law_taken" a_taken b_taken s_taken [] .none .none 208 .none
  meth : MthK K
  blk : FnK K 202 "_law_block" "_law_block" a_block b_block s_block [] .none .none 201 .none
  flg : FlgK K
  info : FnK K 59 "_get_name_info" "_get_name_info" a_info b_info s_info [] .none .none 58 .none
  right : FnK K 75 "bisect_right" "bisect_right" a_right b_right s_right [] (.ref 67) (.ref 68) 74 .none
  left : FnK K 84 "bisect_left" "bisect_left" a_left b_left s_left [] (.ref 76) (.ref 77) 83 .none
  bdr : ∀ v1 v2 v3 v4 v5, Bnd K "bisect_right" "bisect_right" a_right b_right s_right [] (.ref 67) (.ref 68) 74 .none ⟨[v1, v2, v3, v4], [("key", v5)]⟩ [("a", v1), ("x", v2), ("lo", v3), ("hi", v4), ("key", v5)]
  bdl : ∀ v1 v2 v3 v4 v5, Bnd K "bisect_left" "bisect_left" a_left b_left s_left [] (.ref 76) (.ref 77) 83 .none ⟨[v1, v2, v3, v4], [("key", v5)]⟩ [("a", v1), ("x", v2), ("lo", v3), ("hi", v4), ("key", v5)]
  nF : nsIn K mainGlobals "pretty_flags" = some (some (.ref 29))
  nI : nsIn K mainGlobals "_get_name_info" = some (some (.ref 59))
  nB : nsIn K mainGlobals "_law_block" = some (some (.ref 202))
  nL : nsIn K mainGlobals "bisect_left" = some (some (.ref 84))
  nR : nsIn K mainGlobals "bisect_right" = some (some (.ref 75))
  nList : nsIn K mainGlobals "list" = some none
section
variable {w : World} {A : Around} {E : Value → Shared → Prop} {K : Frag} {mg mb : Str → Option Value} {Q : Value → Shared → Prop} {h : Heap} {gs : Array GenState} {d : Drawn} {t : Nat} {os : OsState} {g : Heap} {L : Addr} {m : Str → Option Value}
noncomputable def goOf (short : Nat) (kf : Nat → Int) (x : Int) (i : Nat) : Bool := if short = 0 then !decide (kf i < x) else decide (x < kf i)
theorem find_spec (TK : TknK K) {f lg l : Addr} {many lo hi n short : Nat} {x : Int} {u1 u2 u3 : Tok} {kf e : Nat → Int} {xs : List Int} {vs : List Value} {c : Nat}
    (G : Gd K mg mb (h.hide lg)) (am : Amb A (n + 2)) (hX : LogAt h lg xs) (hz : xs.length + (hi - lo) ≤ 10000) (hl : h.get? l = some (listOf vs.toArray c)) (hv : ∀ i, i < many → ∃ u, vs[i]? = some (.int i u)) (hll : l ≠ lg) (hlh : lo ≤ hi) (hm : hi ≤ many) (hm2 : many ≤ 10000)
    (hkp : ∀ h', Sub (h.hide lg) h' → Kp (model PW w) h' (.ref f)) (hc : Asks w f lg n h gs d os many kf e)
    (q : ∀ h' t' u, Sub (h.hide lg) h' → LogAt h' lg (xs ++ (bis (goOf short kf x) (hi - lo) lo hi).2.map e) → Q (.int (bis (goOf short kf x) (hi - lo) lo hi).1 u) ⟨h', gs, d, t', os⟩) :
    wpAny (model PW w) A (call (if ((short : Int) == 0) = true then .ref 84 else .ref 75) [.ref l, .int x u1, .int lo u2, .int hi u3] [("key", .ref f)]) Q E ⟨h, gs, d, t, os⟩ := by
  by_cases h0 : short = 0
  · subst h0
    have eg : goOf 0 kf x = fun i => !decide (kf i < x) := by funext i; simp [goOf]
    rw [eg] at q
    exact left_spec TK.left TK.bdl G am hX hz hl hll hv hlh hm hm2 hkp hc q
  · have eg : goOf short kf x = fun i => decide (x < kf i) := by funext i; simp [goOf, h0]
    rw [eg] at q
    rw [if_neg (by simp; lia)]
    exact right_spec TK.right TK.bdr G am hX hz hl hll hv hlh hm hm2 hkp hc q
theorem find_kp (TK : TknK K) {X : K.In h} {short : Nat} : Kp (model PW w) h (if ((short : Int) == 0) = true then .ref 84 else .ref 75) := by
  split
  · exact Kp.fnK TK.left X
  · exact Kp.fnK TK.right X
theorem bis_le (go : Nat → Bool) : ∀ (n lo hi : Nat), lo ≤ hi → (bis go n lo hi).1 ≤ hi
  | 0, lo, hi, h => h
  | n + 1, lo, hi, h => by
    simp only [bis]
    split
    · split
      · exact Nat.le_trans (bis_le go n lo _ (by lia)) (by lia)
      · exact bis_le go n _ hi (by lia)
    · exact h
theorem bis_one (go : Nat → Bool) (lo : Nat) : bis go (lo + 1 - lo) lo (lo + 1) = if go lo then (lo, [lo]) else (lo + 1, [lo]) := by
  rw [show lo + 1 - lo = 1 by lia]
  have e : (lo + (lo + 1)) / 2 = lo := by lia
  simp only [bis]
  rw [if_pos (by lia), e]
theorem Asks.le {f lg : Addr} {n many many' : Nat} {kf e : Nat → Int} (x : Asks w f lg n h gs d os many kf e) (hm : many' ≤ many) : Asks w f lg n h gs d os many' kf e :=
  fun A E Q h' t i u xs am hi => x A E Q h' t i u xs am (Nat.lt_of_lt_of_le hi hm)
theorem News.turn {lg : Addr} {o o' : Obj} {news : List (Addr × Obj)} {h h' : Heap} (N : News g L h ((lg, o) :: news)) (hne : ∀ p ∈ news, p.1 ≠ lg) (k : Heap.ExtBut lg h h') (e : h'.get? lg = some o') : News g L h' ((lg, o') :: news) := by
  intro p hp
  rcases List.mem_cons.mp hp with rfl | hp
  · exact ⟨e, (N _ (.head _)).2⟩
  · exact ⟨k _ _ (hne p hp) (N p (.tail _ hp)).1, (N p (.tail _ hp)).2⟩
noncomputable def Outcome (short : Nat) (lS lO : List Value) (key : Int) (kfO : Nat → Int) (blk : Nat) (e : Nat → Int) (T lS' lO' : List Value) (ys : List Int) : Prop :=
  (goOf short kfO key (lO.length - blk) = true ∧ T = lO.drop (lO.length - blk) ∧ lS' = lS ∧ lO' = lO.take (lO.length - blk) ∧ ys = [e (lO.length - blk)]) ∨
  (goOf short kfO key (lO.length - blk) = false ∧ ∃ x, lS.getLast? = some x ∧ T = x :: lO.drop (bis (goOf short kfO key) (lO.length - (lO.length - blk + 1)) (lO.length - blk + 1) lO.length).1 ∧ lS' = lS.dropLast ∧
    lO' = lO.take (bis (goOf short kfO key) (lO.length - (lO.length - blk + 1)) (lO.length - blk + 1) lO.length).1 ∧ ys = e (lO.length - blk) :: (bis (goOf short kfO key) (lO.length - (lO.length - blk + 1)) (lO.length - blk + 1) lO.length).2.map e)
theorem Outcome.one {short b0 blk : Nat} {lS lO : List Value} {k0 key : Int} {kfO : Nat → Int} {e : Nat → Int} (hk : k0 = key) (hb : b0 = blk) (hgo : goOf short kfO key (lO.length - blk) = true) :
    Outcome short lS lO k0 kfO b0 e (lO.drop (lO.length - blk)) lS (lO.take (lO.length - blk)) [e (lO.length - blk)] := by
  subst hk; subst hb; exact .inl ⟨hgo, rfl, rfl, rfl, rfl⟩
theorem Outcome.more {short b0 blk : Nat} {lS lO : List Value} {k0 key : Int} {kfO : Nat → Int} {e : Nat → Int} {bb : Nat × List Nat} {x : Value} (hk : k0 = key) (hb : b0 = blk) (hgo : goOf short kfO key (lO.length - blk) = false)
    (hbis : bis (goOf short kfO key) (lO.length - (lO.length - blk + 1)) (lO.length - blk + 1) lO.length = bb) (hx : lS.getLast? = some x) :
    Outcome short lS lO k0 kfO b0 e (x :: lO.drop bb.1) lS.dropLast (lO.take bb.1) (e (lO.length - blk) :: bb.2.map e) := by
  subst hk; subst hb; subst hbis; exact .inr ⟨hgo, x, hx, rfl, rfl, rfl, rfl⟩
set_option maxHeartbeats 4000000 in
theorem taken_core (TK : TknK K) {pS pO xS xO lg pl kl tell ml kS : Addr} {lS lO pv kv kvS ms : List Value} {nS nO cp ck ckS cm : Nat} {odS odO oTl oS oF oT : Obj} {fd : FuncData} {vS vO : Value} {ps : Array Value} {ls : List Value} {lc short base n : Nat} {us ub : Tok} {xs ksS : List Int} {kf : Nat → Nat → Int} {szf : Nat → Nat}
    (G : Gd K mg mb g) (am : Amb A (n + 20)) (F : Fr g L h m)
    (N : News g L h [(L + 1 + 1 + 1, oS), (L + 1 + 1, oF), (L + 1, oT), (pS, accO xS lS.toArray nS), (pO, accO xO lO.toArray nO), (lg, listOf ls.toArray lc), (204, tabObj ps)])
    (dS : oS.data = .cell (some (.int short us))) (dF : ∃ x, oF.data = .cell x) (dT : oT.data = .cell (some (.ref tell)))
    (hpp : pS ≠ pO) (h2 : short < 2)
    (mp : m "piles" = some (.ref pl)) (mk : m "keys" = some (.ref kl)) (mb' : m "base" = some (.int base ub)) (mm' : m "marks" = some (.ref ml))
    (hpl : g.get? pl = some (listOf pv.toArray cp)) (hpS : pv[short]? = some (.ref pS)) (hpO : pv[1 - short]? = some (.ref pO))
    (hkl : g.get? kl = some (listOf kv.toArray ck)) (hkS : kv[short]? = some (.ref kS)) (hks : g.get? kS = some (listOf kvS.toArray ckS)) (hkI : IntsAre kvS ksS)
    (hxS : g.get? xS = some odS) (hiS : IniD odS vS) (hxO : g.get? xO = some odO) (hiO : IniD odO vO)
    (hml : g.get? ml = some (listOf ms.toArray cm)) (hms : StrsAre ms (marksOf base)) (hb : base < 29)
    (hX : IntsAre ls xs) (hxl : xs.length ≤ 5000) (htl : g.get? tell = some oTl) (dtl : oTl.data = .func fd) (ht : TellOk w tell lg n g gs d os kf szf) (hCd : CodeHd g 208 204) (hBt : g.BuiltinsAt mg 204)
    (hTb : TabOk g lookL.2.2.2 ((tEnv L).qual ++ "<lambda>") ps)
    (hl1 : 1 ≤ lS.length) (hl2 : lS.length ≤ lO.length) (hl3 : lO.length ≤ 9) (hksz : lS.length ≤ ksS.length) (hszf : lO.length ≤ szf (1 - short))
    (q : ∀ (a : Addr) (h' : Heap) (t' : Nat) (T : List Value) (c : Nat) (lS' lO' : List Value) (nS' nO' : Nat) (ys : List Int) (ps' : Array Value) (own : List (Addr × Obj)), Outcome short lS lO (ksS.getD (lS.length - 1) 0) (fun i => kf (1 - short) i) (2 ^ Nat.log2 (lO.length / lS.length)) (fun i => entry (1 - short) i (lS.length - 1)) T lS' lO' ys →
      Sub g h' → h'.get? a = some (listOf (List.toArray T) c) → L < a → h'.get? pS = some (accO xS (List.toArray lS') nS') → h'.get? pO = some (accO xO (List.toArray lO') nO') → LogAt h' lg (xs ++ ys) → h'.get? 204 = some (tabObj ps') →
      (∀ p ∈ own, L < p.1 ∧ h'.get? p.1 = some p.2) → (∀ h'', (∀ p ∈ own, h''.get? p.1 = some p.2) → ∀ z, TabOk h'' z ((tEnv L).qual ++ "<lambda>") ps → TabOk h'' z ((tEnv L).qual ++ "<lambda>") ps') → Q (.ref a) ⟨h', gs, d, t', os⟩) :
    wpAny (model PW w) A (execs (b_taken.drop 1) (tEnv L)) (fun fl s' => Q (match fl with | .ret v => v | _ => .none) s') (fun zz zz => False) ⟨h, gs, d, t, os⟩ := by
  show wpAny _ _ (execs (_ :: _) _) _ _ _
  refine wpAny_execs_cons ?_
  wtm_at "go2"
  have MK := TK.meth
  obtain ⟨xF, dF⟩ := dF
  have nc : ∀ {b a : Addr} {ob oa : Obj} {x : Option Value}, (b, ob) ∈ [(L + 1 + 1 + 1, oS), (L + 1 + 1, oF), (L + 1, oT), (pS, accO xS lS.toArray nS), (pO, accO xO lO.toArray nO), (lg, listOf ls.toArray lc), (204, tabObj ps)] →
      (a, oa) ∈ [(L + 1 + 1 + 1, oS), (L + 1 + 1, oF), (L + 1, oT), (pS, accO xS lS.toArray nS), (pO, accO xO lO.toArray nO), (lg, listOf ls.toArray lc), (204, tabObj ps)] → oa.data = .cell x → (∀ y, ob.data ≠ .cell y) → b ≠ a :=
    fun hb ha hd hn => News.apart N hb ha fun e => hn _ (e ▸ hd)
  have nSF : pS ≠ L + 1 + 1 := nc (ob := accO xS lS.toArray nS) (by wtm_at "mm") (by wtm_at "mm") dF (by intro y e; cases e)
  have nO3 : pO ≠ L + 1 + 1 + 1 := nc (ob := accO xO lO.toArray nO) (by wtm_at "mm") (by wtm_at "mm") dS (by intro y e; cases e)
  have nOF : pO ≠ L + 1 + 1 := nc (ob := accO xO lO.toArray nO) (by wtm_at "mm") (by wtm_at "mm") dF (by intro y e; cases e)
  have nLF : lg ≠ L + 1 + 1 := nc (ob := listOf ls.toArray lc) (by wtm_at "mm") (by wtm_at "mm") dF (by intro y e; cases e)
  have nTF : (204 : Addr) ≠ L + 1 + 1 := nc (ob := tabObj ps) (by wtm_at "mm") (by wtm_at "mm") dF (by intro y e; cases e)
  have nST : pS ≠ 204 := News.apart (o := accO xS lS.toArray nS) (o' := tabObj ps) N (by wtm_at "mm") (by wtm_at "mm") (by intro e; cases e)
  have nOT : pO ≠ 204 := News.apart (o := accO xO lO.toArray nO) (o' := tabObj ps) N (by wtm_at "mm") (by wtm_at "mm") (by intro e; cases e)
  have nLT : lg ≠ 204 := News.apart (o := listOf ls.toArray lc) (o' := tabObj ps) N (by wtm_at "mm") (by wtm_at "mm") (by intro e; cases e)
  have nSL : pS ≠ lg := News.apart (o := accO xS lS.toArray nS) (o' := listOf ls.toArray lc) N (by wtm_at "mm") (by wtm_at "mm") (by intro e; cases e)
  have nOL : pO ≠ lg := News.apart (o := accO xO lO.toArray nO) (o' := listOf ls.toArray lc) N (by wtm_at "mm") (by wtm_at "mm") (by intro e; cases e)
  have nST1 : (204 : Addr) ≠ L + 1 := nc (ob := tabObj ps) (by wtm_at "mm") (by wtm_at "mm") dT (by intro y e; cases e)
  have nST3 : (204 : Addr) ≠ L + 1 + 1 + 1 := nc (ob := tabObj ps) (by wtm_at "mm") (by wtm_at "mm") dS (by intro y e; cases e)
  have nL1 : lg ≠ L + 1 := nc (ob := listOf ls.toArray lc) (by wtm_at "mm") (by wtm_at "mm") dT (by intro y e; cases e)
  have nL3 : lg ≠ L + 1 + 1 + 1 := nc (ob := listOf ls.toArray lc) (by wtm_at "mm") (by wtm_at "mm") dS (by intro y e; cases e)
  have IS : ∀ h', Sub g h' → h'.get? pS = some (accO xS lS.toArray nS) → Acc h' pS xS lS.toArray nS odS := fun h' k e => ⟨e, k _ _ hxS⟩
  have IO : ∀ h', Sub g h' → h'.get? pO = some (accO xO lO.toArray nO) → Acc h' pO xO lO.toArray nO odO := fun h' k e => ⟨e, k _ _ hxO⟩
  with_reducible refine x_AssTup ?_
  wtm_at "go2"
  with_reducible refine nm_C (n0 N) dS ?_
  with_reducible refine r_subL (F.keep _ _ hpl) (x := .ref pS) ?_ ?_ ?_ ?_
  · lia
  · lia
  · simpa using hpS
  wtm_at "go2"
  refine m_count (name := "part_count") (G.X.keeps F.keep) MK (IS _ F.keep (n3 N)) hiS ?_
  wtm_at "go2"
  refine ⟨Kp.fnK MK.count (G.X.keeps F.keep), ?_⟩
  refine count_spec MK.count MK.scount MK.cls MK.sup (G.keeps F.keep) (am.mono (by lia)) (IS _ F.keep (n3 N)) ?_
  intro h₂ t₂ u2 k2
  have F := Fr.sub F k2
  have N := News.keep N k2
  wtm_at "go2"
  with_reducible refine nm_C (n0 N) dS ?_
  wtm_at "go2"
  with_reducible refine r_subL (F.keep _ _ hpl) (x := .ref pO) ?_ ?_ ?_ ?_
  · lia
  · lia
  · rw [show ((1 : Int) - (short : Int)).toNat = 1 - short from zt2 (by assumption)]; simpa using hpO
  wtm_at "go2"
  refine m_count (name := "part_count") (G.X.keeps F.keep) MK (IO _ F.keep (n4 N)) hiO ?_
  wtm_at "go2"
  refine ⟨Kp.fnK MK.count (G.X.keeps F.keep), ?_⟩
  refine count_spec MK.count MK.scount MK.cls MK.sup (G.keeps F.keep) (am.mono (by lia)) (IO _ F.keep (n4 N)) ?_
  intro h₃ t₃ u3 k3
  have F := Fr.sub F k3
  have N := News.keep N k3
  wtm_at "go2"
  with_reducible refine r_newTuple F N ?_
  intro tp h₄ F N ltp _
  refine r_asTup am.hd F N (n0 N) ?_
  intro h₅ F N _
  refine x_ord ?_
  have N := News.sub (l' := (L + 1 + 1, oF) :: (L + 1 + 1 + 1, oS) :: (L + 1, oT) :: (pS, accO xS lS.toArray nS) :: (pO, accO xO lO.toArray nO) :: (lg, listOf ls.toArray lc) :: (204, tabObj ps) :: []) N (by wtm_at "prm")
  refine r_stC F N ?_ dF ?_
  · exact ne_cons (Nat.succ_ne_self _) (ne_cons (Nat.ne_of_lt (Nat.lt_succ_self _)) (ne_cons nSF (ne_cons nOF (ne_cons nLF (ne_cons nTF ne_nil)))))
  intro h₆ oF' F N dF'
  refine x_ord ?_
  wtm_at "sts"
  intro h₇ F N
  refine x_ord0 ?_
  wtm_at "go2"
  with_reducible refine nm_K F G TK.nB ?_
  wtm_at "go2"
  with_reducible refine nm_C (n0 N) dF' ?_
  wtm_at "go2"
  refine ⟨Kp.fnK TK.blk (G.X.keeps F.keep), ?_⟩
  rw [List.size_toArray, List.size_toArray] at *
  refine block_spec TK.blk TK.flg TK.nF (G.keeps F.keep) (am.mono (by lia)) hb hl1 hl2 hl3 (F.keep _ _ hml) hms ?_
  intro h₈ t₈ u8 k8
  have F := Fr.sub F k8
  have N := News.keep N k8
  have hlog : 2 ^ Nat.log2 (lO.length / lS.length) ≤ lO.length / lS.length := Nat.log2_self_le (by have := (Nat.one_le_div_iff (show 0 < lS.length by lia)).mpr hl2; lia)
  have hlog2 : lO.length / lS.length ≤ lO.length := Nat.div_le_self _ _
  have hpos : 1 ≤ 2 ^ Nat.log2 (lO.length / lS.length) := Nat.one_le_two_pow
  have ebl : ((2 : Int) ^ Nat.log2 (lO.length / lS.length)) = ((2 ^ Nat.log2 (lO.length / lS.length) : Nat) : Int) := by simp
  rw [ebl]
  generalize hbk : 2 ^ Nat.log2 (lO.length / lS.length) = blk at hlog hpos
  wtm_at "sts"
  intro h₉ F N
  wtm_at "go2"
  rw [if_neg (by simp; lia)]
  wtm_at "go2"
  with_reducible refine nm_C (n1 N) dS ?_
  wtm_at "go2"
  refine x_pick (v1 := .ref 84) (v2 := .ref 75) (fun Q q => ?_) (fun Q q => ?_) ?_
  · with_reducible refine nm_K F G TK.nL ?_
    exact q
  · with_reducible refine nm_K F G TK.nR ?_
    exact q
  wtm_at "sts"
  intro h10 F N
  wtm_at "go2"
  have N := News.sub (l' := (204, tabObj ps) :: (L + 1 + 1, oF') :: (L + 1 + 1 + 1, oS) :: (L + 1, oT) :: (pS, accO xS lS.toArray nS) :: (pO, accO xO lO.toArray nO) :: (lg, listOf ls.toArray lc) :: []) N (by wtm_at "prm")
  refine r_lambda (clos := [("tell", L + 1), ("short", L + 1 + 1 + 1), ("few", L + 1 + 1)]) F G N ?_ hCd (hTb.keeps F.keep) hBt ?_
  · exact ne_cons (Ne.symm nTF) (ne_cons (Ne.symm nST3) (ne_cons (Ne.symm nST1) (ne_cons nST (ne_cons nOT (ne_cons nLT ne_nil)))))
  have hL10 := Fr.lt F
  have hpOs : (pO : Nat) < h10.objs.size := Heap.lt_size (N (pO, accO xO lO.toArray nO) (by wtm_at "mm")).1
  have hpSs : (pS : Nat) < h10.objs.size := Heap.lt_size (N (pS, accO xS lS.toArray nS) (by wtm_at "mm")).1
  have hlgs : (lg : Nat) < h10.objs.size := Heap.lt_size (N (lg, listOf ls.toArray lc) (by wtm_at "mm")).1
  intro fk c' ctv h11 t11 ps' own F N lfk hown hcr hfk
  wtm_at "sts"
  intro h12 F N
  wtm_at "go2"
  refine x_AssSw (a := "key") (b := "places") ?_
  wtm_at "go2"
  have N := News.sub (l' := (fk, _) :: (204, tabObj ps') :: (L + 1 + 1, oF') :: (L + 1 + 1 + 1, oS) :: (L + 1, oT) :: (pS, accO xS lS.toArray nS) :: (pO, accO xO lO.toArray nO) :: (lg, listOf ls.toArray lc) :: own) N (by
    refine pm_cons (.head _) (pm_cons (.tail _ (.head _)) ?_)
    refine pm_tail (pm_tail ?_)
    refine pm_cons (List.mem_append_right _ (by wtm_at "mm")) (pm_cons (List.mem_append_right _ (by wtm_at "mm")) (pm_cons (List.mem_append_right _ (by wtm_at "mm")) (pm_cons (List.mem_append_right _ (by wtm_at "mm")) (pm_cons (List.mem_append_right _ (by wtm_at "mm")) (pm_cons (List.mem_append_right _ (by wtm_at "mm")) (pm_left pm_id)))))))
  with_reducible refine nm_C (n3 N) dS ?_
  with_reducible refine r_subL (F.keep _ _ hkl) (x := .ref kS) ?_ ?_ ?_ ?_
  · lia
  · lia
  · simpa using hkS
  wtm_at "go2"
  with_reducible refine nm_C (n2 N) dF' ?_
  wtm_at "go2"
  obtain ⟨uk, huk⟩ : ∃ uk, kvS[lS.length - 1]? = some (.int (ksS.getD (lS.length - 1) 0) uk) := IntsAre.at_ hkI (by lia)
  with_reducible refine r_subL (F.keep _ _ hks) (x := .int (ksS.getD (lS.length - 1) 0) uk) ?_ ?_ ?_ ?_
  · lia
  · lia
  · rw [show ((lS.length : Int) - 1).toNat = lS.length - 1 from zt3 (by assumption)]; simpa using huk
  generalize hkey : ksS.getD (lS.length - 1) 0 = key
  wtm_at "go2"
  with_reducible refine nm_B F G TK.nList bb_list ?_
  wtm_at "go2"
  with_reducible refine nm_B F G TK.flg.nR bb_range ?_
  wtm_at "go2"
  with_reducible refine r_range1 F N ?_
  intro r h13 t1' t2' t3' F N lr tk
  wtm_at "go2"
  refine r_listRange am.hd F N (n0 N) (by lia) ?_
  intro li vs lic h14 t14 F N lli k14 hli hvl hvs
  wtm_at "go2"
  with_reducible refine r_newTuple F N ?_
  intro tp2 h15 F N ltp2 htp2
  refine r_swap2 am.hd F N (n0 N) ?_
  intro h16 F N _
  refine wpAny_bindName ?_
  wtm_at "sts"
  intro h17 F N
  refine wpAny_bindName ?_
  wtm_at "sts"
  intro h18 F N
  wtm_at "go2"
  with_reducible refine x_cw ?_
  wtm_at "go2"
  refine ⟨find_kp TK (X := G.X.keeps F.keep), ?_⟩
  have eml : (lO.length : Int) - (blk : Int) = ((lO.length - blk : Nat) : Int) := by lia
  have eml1 : ((lO.length - blk : Nat) : Int) + 1 = ((lO.length - blk + 1 : Nat) : Int) := by lia
  rw [eml, eml1]
  show wpAny _ _ (call _ [.ref li, .int key uk, .int _ _, .int _ _] [("key", .ref fk)]) _ _ _
  have hO := N
  have gl : g.get? lg = none := (N (lg, listOf ls.toArray lc) (by wtm_at "mm")).2.2
  have hXl : LogAt h18 lg xs := ⟨ls, lc, (N (lg, listOf ls.toArray lc) (by wtm_at "mm")).1, hX⟩
  have hfko : h18.get? fk = some (kla_obj "<lambda>" ((tEnv L).qual ++ "<lambda>") lookA lookB lookS [("tell", L + 1), ("short", L + 1 + 1 + 1), ("few", L + 1 + 1)] ((mg "__name__").getD .none) c' ctv) := n3 N
  have hownO : ∀ p ∈ own, h18.get? p.1 = some p.2 := fun p hp => (N p (by
    refine .tail _ (.tail _ (.tail _ (.tail _ (.tail _ (.tail _ (.tail _ (.tail _ (.tail _ (.tail _ (.tail _ ?_))))))))))
    exact hp)).1
  have hask := look_spec TK.info TK.nI (h := h18) (lg := lg) (n := n) (kf := kf) (sz := szf) (few := lS.length) (short := short) (G.keeps (subHide F.keep gl)) hXl hfko ((hcr h18 hownO).1 (hTb.keeps F.keep)) (cT := L + 1) rfl (N (L + 1, oT) (by wtm_at "mm")).1 dT (cF := L + 1 + 1) rfl (N (L + 1 + 1, oF') (by wtm_at "mm")).1 dF' (cS := L + 1 + 1 + 1) rfl (N (L + 1 + 1 + 1, oS) (by wtm_at "mm")).1 dS h2 hl1 (by lia) (F.keep _ _ htl) dtl (ht.mono (subHide F.keep gl) (by rw [Heap.hide_size]; exact Fr.szle F))
  have hask := hask.le (many' := lO.length) hszf
  have n1L : lg < li := lli (lg, listOf ls.toArray lc) (by wtm_at "mm")
  have n1F : lg < fk := lfk (lg, listOf ls.toArray lc) (.tail _ (List.mem_append_right _ (by wtm_at "mm")))
  have n1O : ∀ p ∈ own, p.1 ≠ lg := fun p hp => Nat.ne_of_gt (Nat.lt_of_lt_of_le hlgs (hown p hp))
  have N := News.sub (l' := (lg, listOf ls.toArray lc) :: (li, listOf vs.toArray lic) :: (fk, kla_obj "<lambda>" ((tEnv L).qual ++ "<lambda>") lookA lookB lookS [("tell", L + 1), ("short", L + 1 + 1 + 1), ("few", L + 1 + 1)] ((mg "__name__").getD .none) c' ctv) :: (204, tabObj ps') :: (L + 1 + 1, oF') :: (L + 1 + 1 + 1, oS) :: (L + 1, oT) :: (pS, accO xS lS.toArray nS) :: (pO, accO xO lO.toArray nO) :: own) N (by
    refine pm_cons (by wtm_at "mm") (pm_cons (by wtm_at "mm") (pm_cons (by wtm_at "mm") (pm_cons (by wtm_at "mm") (pm_cons (by wtm_at "mm") (pm_cons (by wtm_at "mm") (pm_cons (by wtm_at "mm") (pm_cons (by wtm_at "mm") (pm_cons (by wtm_at "mm") ?_))))))))
    exact pm_tail (pm_tail (pm_tail (pm_tail (pm_tail (pm_tail (pm_tail (pm_tail (pm_tail (pm_tail (pm_tail pm_id)))))))))))
  have hneL : ∀ p ∈ (li, listOf vs.toArray lic) :: (fk, kla_obj "<lambda>" ((tEnv L).qual ++ "<lambda>") lookA lookB lookS [("tell", L + 1), ("short", L + 1 + 1 + 1), ("few", L + 1 + 1)] ((mg "__name__").getD .none) c' ctv) :: (204, tabObj ps') :: (L + 1 + 1, oF') :: (L + 1 + 1 + 1, oS) :: (L + 1, oT) :: (pS, accO xS lS.toArray nS) :: (pO, accO xO lO.toArray nO) :: own, p.1 ≠ lg :=
    ne_cons (Nat.ne_of_gt n1L) (ne_cons (Nat.ne_of_gt n1F) (ne_cons (Ne.symm nLT) (ne_cons (Ne.symm nLF) (ne_cons (Ne.symm nL3) (ne_cons (Ne.symm nL1) (ne_cons nSL (ne_cons nOL n1O)))))))
  refine find_spec TK (lg := lg) (n := n + 5) (many := lO.length) (G.keeps (subHide F.keep gl)) (am.mono (by lia)) hXl (by lia) (n1 N) (by rw [← hvl] at *; exact fun i hi => hvs i hi) (Nat.ne_of_gt n1L) (by lia) (by lia) (by lia) ?_ hask ?_
  · intro h' k'
    exact Kp.fn (k' _ _ ((Heap.hide_ne _ (Nat.ne_of_gt n1F)).trans hfko)) rfl
  rw [bis_one]
  intro h19 t19 u19 k19 hX19
  obtain ⟨ls19, lc19, hlg19, hI19⟩ := hX19
  have F := Fr.ext F (N _ (.head _)).2.1 gl (of_hide' k19)
  have N := News.turn N hneL (of_hide' k19) hlg19
  cases hgo : goOf short (fun i => kf (1 - short) i) key (lO.length - blk) with
  | true =>
    rw [hgo, if_pos rfl] at hI19
    rw [if_pos rfl]
    dsimp only at hI19 ⊢
    wtm_at "sts"
    intro h20 F N
    wtm_at "go2"
    rw [eml, if_pos (by simp)]
    wtm_at "go2"
    with_reducible refine nm_C (n5 N) dS ?_
    wtm_at "go2"
    with_reducible refine r_subL (F.keep _ _ hpl) (x := .ref pO) ?_ ?_ ?_ ?_
    · lia
    · lia
    · rw [show ((1 : Int) - (short : Int)).toNat = 1 - short from zt2 (by assumption)]; simpa using hpO
    wtm_at "go2"
    have gO : g.get? pO = none := (N (pO, accO xO lO.toArray nO) (by wtm_at "mm")).2.2
    have eO := (N (pO, accO xO lO.toArray nO) (by wtm_at "mm")).1
    have IO2 := IO _ F.keep eO
    refine r_meth (G.X.keeps F.keep) MK.cls IO2 MK.f_popf.1 (.inl MK.f_popf.2) (hiO.miss (by decide +kernel)) ?_
    wtm_at "go2"
    refine ⟨Kp.fnK MK.popf (G.X.keeps F.keep), ?_⟩
    refine popf_spec MK (G.keeps (subHide F.keep gO)) (am.mono (by lia)) IO2 hiO (by rw [sizeLine_eq]; lia) (by lia) ?_
    intro a h21 t21 nO' cT k21 ha eT eO'
    wtm_at "go2"
    have e21 := of_hide' k21
    have hLa : L < a := Nat.lt_of_lt_of_le (Fr.lt F) ha
    have nOown : ∀ p ∈ own, p.1 ≠ pO := fun p hp => Nat.ne_of_gt (Nat.lt_of_lt_of_le hpOs (hown p hp))
    have hown2 : ∀ p ∈ own, h20.get? p.1 = some p.2 := fun p hp => (N p (by
      refine .tail _ (.tail _ (.tail _ (.tail _ (.tail _ (.tail _ (.tail _ (.tail _ (.tail _ ?_))))))))
      exact hp)).1
    have eS := (N (pS, accO xS lS.toArray nS) (by wtm_at "mm")).1
    have eL := n0 N
    have eTb := n3 N
    have sg := fun b o e => k21 b o (subHide F.keep gO b o e)
    refine q a h21 t21 _ cT lS _ nS nO' _ ps' own (Outcome.one hkey hbk hgo) sg eT hLa (e21 _ _ hpp eS) eO' ⟨ls19, lc19, e21 _ _ (Ne.symm nOL) eL, hI19⟩ (e21 _ _ (Ne.symm nOT) eTb) (fun p hp => ⟨Nat.lt_of_lt_of_le hL10 (hown p hp), e21 _ _ (nOown p hp) (hown2 p hp)⟩) (fun h'' k2 => (hcr h'' k2).2)
  | false =>
    rw [hgo, if_neg (by decide)] at hI19
    rw [if_neg (by decide)]
    dsimp only at hI19 ⊢
    wtm_at "sts"
    intro h20 F N
    wtm_at "go2"
    rw [eml, if_neg (by simp; lia)]
    wtm_at "go2"
    with_reducible refine x_cw ?_
    wtm_at "go2"
    refine ⟨find_kp TK (X := G.X.keeps F.keep), ?_⟩
    show wpAny _ _ (call _ [.ref li, .int key uk, .int _ _, .int _ _] [("key", .ref fk)]) _ _ _
    have hX20 : LogAt h20 lg (xs ++ [entry (1 - short) (lO.length - blk) (lS.length - 1)]) := ⟨ls19, lc19, n0 N, hI19⟩
    have hfk20 : h20.get? fk = some (kla_obj "<lambda>" ((tEnv L).qual ++ "<lambda>") lookA lookB lookS [("tell", L + 1), ("short", L + 1 + 1 + 1), ("few", L + 1 + 1)] ((mg "__name__").getD .none) c' ctv) := n2 N
    have hown20 : ∀ p ∈ own, h20.get? p.1 = some p.2 := fun p hp => (N p (by
      refine .tail _ (.tail _ (.tail _ (.tail _ (.tail _ (.tail _ (.tail _ (.tail _ (.tail _ ?_))))))))
      exact hp)).1
    have hask2 := look_spec TK.info TK.nI (h := h20) (lg := lg) (n := n) (kf := kf) (sz := szf) (few := lS.length) (short := short) (G.keeps (subHide F.keep gl)) hX20 hfk20 ((hcr h20 hown20).1 (hTb.keeps F.keep)) (cT := L + 1) rfl (N (L + 1, oT) (by wtm_at "mm")).1 dT (cF := L + 1 + 1) rfl (N (L + 1 + 1, oF') (by wtm_at "mm")).1 dF' (cS := L + 1 + 1 + 1) rfl (N (L + 1 + 1 + 1, oS) (by wtm_at "mm")).1 dS h2 hl1 (by lia) (F.keep _ _ htl) dtl (ht.mono (subHide F.keep gl) (by rw [Heap.hide_size]; exact Fr.szle F))
    have hask2 := hask2.le (many' := lO.length) hszf
    refine find_spec TK (lg := lg) (n := n + 5) (many := lO.length) (G.keeps (subHide F.keep gl)) (am.mono (by lia)) hX20 (by simp; lia) (n1 N) (by rw [← hvl] at *; exact fun i hi => hvs i hi) (Nat.ne_of_gt n1L) (by lia) (by lia) (by lia) ?_ hask2 ?_
    · intro h' k'
      exact Kp.fn (k' _ _ ((Heap.hide_ne _ (Nat.ne_of_gt n1F)).trans hfk20)) rfl
    intro h21 t21 u21 k21 hX21
    obtain ⟨ls21, lc21, hlg21, hI21⟩ := hX21
    have F := Fr.ext F (N _ (.head _)).2.1 gl (of_hide' k21)
    have N := News.turn N hneL (of_hide' k21) hlg21
    generalize hbis : bis (goOf short (fun i => kf (1 - short) i) key) (lO.length - (lO.length - blk + 1)) (lO.length - blk + 1) lO.length = bb at hI21 ⊢
    have hbb : bb.1 ≤ lO.length := by rw [← hbis]; exact bis_le _ _ _ _ (by lia)
    wtm_at "sts"
    intro h22 F N
    wtm_at "go2"
    with_reducible refine nm_C (n5 N) dS ?_
    wtm_at "go2"
    with_reducible refine r_subL (F.keep _ _ hpl) (x := .ref pO) ?_ ?_ ?_ ?_
    · lia
    · lia
    · rw [show ((1 : Int) - (short : Int)).toNat = 1 - short from zt2 (by assumption)]; simpa using hpO
    wtm_at "go2"
    have gO : g.get? pO = none := (N (pO, accO xO lO.toArray nO) (by wtm_at "mm")).2.2
    have eO := (N (pO, accO xO lO.toArray nO) (by wtm_at "mm")).1
    have IO2 := IO _ F.keep eO
    refine r_meth (G.X.keeps F.keep) MK.cls IO2 MK.f_popf.1 (.inl MK.f_popf.2) (hiO.miss (by decide +kernel)) ?_
    wtm_at "go2"
    refine ⟨Kp.fnK MK.popf (G.X.keeps F.keep), ?_⟩
    refine popf_spec MK (G.keeps (subHide F.keep gO)) (am.mono (by lia)) IO2 hiO (by rw [sizeLine_eq]; lia) hbb ?_
    intro a2 h23 t23 nO' cT k23 ha2 eT2 eO'
    have e23 := of_hide' k23
    have hLa2 : L < a2 := Nat.lt_of_lt_of_le (Fr.lt F) ha2
    have nOown : ∀ p ∈ own, p.1 ≠ pO := fun p hp => Nat.ne_of_gt (Nat.lt_of_lt_of_le hpOs (hown p hp))
    have hpOL : pO ≠ L := (N (pO, accO xO lO.toArray nO) (by wtm_at "mm")).2.1
    have hown22 : ∀ p ∈ own, h22.get? p.1 = some p.2 := fun p hp => (N p (by
      refine .tail _ (.tail _ (.tail _ (.tail _ (.tail _ (.tail _ (.tail _ (.tail _ (.tail _ ?_))))))))
      exact hp)).1
    have ga2 : g.get? a2 = none := none_of_size (Nat.le_trans (Fr.szle F) ha2)
    have hSO : pS ≠ pO := hpp
    have n3O : L + 1 + 1 + 1 ≠ pO := Ne.symm nO3
    have F := Fr.ext F hpOL gO e23
    have N := News.sub (l' := (L + 1 + 1 + 1, oS) :: (pS, accO xS lS.toArray nS) :: (lg, listOf ls21.toArray lc21) :: (204, tabObj ps') :: own) N (pm_cons (by wtm_at "mm") (pm_cons (by wtm_at "mm") (pm_cons (by wtm_at "mm") (pm_cons (by wtm_at "mm") (fun p hp => .tail _ (.tail _ (.tail _ (.tail _ (.tail _ (.tail _ (.tail _ (.tail _ (.tail _ hp)))))))))))))
    have N := News.cons (News.cons (News.ext N (ne_cons n3O (ne_cons hSO (ne_cons (Ne.symm nOL) (ne_cons (Ne.symm nOT) nOown)))) e23) eO' hpOL gO) eT2 (Nat.ne_of_gt hLa2) ga2
    wtm_at "sts"
    intro h24 F N
    wtm_at "go2"
    with_reducible refine nm_C (n2 N) dS ?_
    wtm_at "go2"
    with_reducible refine r_subL (F.keep _ _ hpl) (x := .ref pS) ?_ ?_ ?_ ?_
    · lia
    · lia
    · simpa using hpS
    wtm_at "go2"
    have zS := N (pS, accO xS lS.toArray nS) (by wtm_at "mm")
    have IS2 := IS _ F.keep zS.1
    refine r_meth (G.X.keeps F.keep) MK.cls IS2 MK.f_pop.1 (.inl MK.f_pop.2) (hiS.miss (by decide +kernel)) ?_
    wtm_at "go2"
    refine ⟨Kp.fnK MK.pop (G.X.keeps F.keep), ?_⟩
    refine pop_spec MK (G.keeps (subHide F.keep zS.2.2)) (am.mono (by lia)) IS2 hiS (by rw [sizeLine_eq]; lia) ?_
    intro h25 t25 rv nS' k25 eS' hrv
    have hrv : lS.getLast? = some rv := by
      rcases hrv with ⟨h0, -⟩ | h0
      · rw [h0] at hl1; exact absurd hl1 (by simp)
      · exact h0
    have e25 := of_hide' k25
    have F := Fr.ext F zS.2.1 zS.2.2 e25
    have nSown : ∀ p ∈ own, p.1 ≠ pS := fun p hp => Nat.ne_of_gt (Nat.lt_of_lt_of_le hpSs (hown p hp))
    have na2S : a2 ≠ pS := fun q => by
      have e1 := zS.1
      rw [← q, n0 N] at e1
      cases e1
    have N := News.sub (l' := (a2, listOf (lO.drop bb.1).toArray cT) :: (pO, accO xO (lO.take bb.1).toArray nO') :: (lg, listOf ls21.toArray lc21) :: (204, tabObj ps') :: own) N (pm_cons (by wtm_at "mm") (pm_cons (by wtm_at "mm") (pm_cons (by wtm_at "mm") (pm_cons (by wtm_at "mm") (fun p hp => .tail _ (.tail _ (.tail _ (.tail _ (.tail _ (.tail _ hp))))))))))
    have N := News.swap (News.cons (News.ext N (ne_cons na2S (ne_cons (Ne.symm hSO) (ne_cons (Ne.symm nSL) (ne_cons (Ne.symm nST) nSown)))) e25) eS' zS.2.1 zS.2.2)
    wtm_at "go2"
    with_reducible refine r_newList F N ?_
    intro l1 h26 F N _ _
    wtm_at "go2"
    refine r_addL F N (n0 N) (n1 N) (by rw [sizeLine_eq]; simp; lia) ?_
    intro a3 h27 F N _ _ ha3
    have hLa3 : L < a3 := Nat.lt_of_lt_of_le (Fr.lt ‹Fr g _ h26 _›) ha3
    wtm_at "go2"
    have f1 := n0 N
    have f2 := n3 N
    have f3 := n4 N
    have f4 := n5 N
    have f5 : h27.get? 204 = some (tabObj ps') := (N (204, tabObj ps') (by wtm_at "mm")).1
    have f6 : ∀ p ∈ own, h27.get? p.1 = some p.2 := fun p hp => (N p (by
      refine .tail _ (.tail _ (.tail _ (.tail _ (.tail _ (.tail _ (.tail _ ?_))))))
      exact hp)).1
    have f7 := F.keep
    exact q a3 h27 _ _ 0 _ _ nS' nO' _ ps' own (Outcome.more hkey hbk hgo hbis hrv) f7 f1 hLa3 f2 f3 ⟨ls21, lc21, f4, by simpa using hI21⟩ f5 (fun p hp => ⟨Nat.lt_of_lt_of_le hL10 (hown p hp), f6 p hp⟩) (fun h'' k2 => (hcr h'' k2).2)
end
end Mine
end
-- F18
section
namespace Mine
section
variable {w : World} {A : Around} {E : Value → Shared → Prop} {K : Frag} {mg mb : Str → Option Value} {Q : Value → Shared → Prop} {h : Heap} {gs : Array GenState} {d : Drawn} {t : Nat} {os : OsState} {g : Heap}
set_option maxHeartbeats 4000000 in
theorem taken_spec (TK : TknK K) {p0 p1 x0 x1 lg pl kl tell ml k0 k1 : Addr} {l0 l1 kv0 kv1 ms : List Value} {n0' n1' cp ck ck0 ck1 cm : Nat} {od0 od1 oTl : Obj} {fd : FuncData} {v0 v1 : Value} {ps : Array Value} {ls : List Value} {lc base n : Nat} {u : Tok} {xs ks0 ks1 : List Int} {kf : Nat → Nat → Int} {szf : Nat → Nat}
    (G : Gd K mg mb g) (sub : Sub g h) (sz : g.objs.size ≤ h.objs.size) (am : Amb A (n + 21))
    (hW : ∀ p ∈ [(p0, accO x0 l0.toArray n0'), (p1, accO x1 l1.toArray n1'), (lg, listOf ls.toArray lc), (204, tabObj ps)], h.get? p.1 = some p.2 ∧ g.get? p.1 = none) (hpp : p0 ≠ p1)
    (hpl : g.get? pl = some (listOf [Value.ref p0, .ref p1].toArray cp)) (hkl : g.get? kl = some (listOf [Value.ref k0, .ref k1].toArray ck))
    (hk0 : g.get? k0 = some (listOf kv0.toArray ck0)) (hI0 : IntsAre kv0 ks0) (hk1 : g.get? k1 = some (listOf kv1.toArray ck1)) (hI1 : IntsAre kv1 ks1)
    (hx0 : g.get? x0 = some od0) (hi0 : IniD od0 v0) (hx1 : g.get? x1 = some od1) (hi1 : IniD od1 v1)
    (hml : g.get? ml = some (listOf ms.toArray cm)) (hms : StrsAre ms (marksOf base)) (hb : base < 29) (hX : IntsAre ls xs) (hxl : xs.length ≤ 5000)
    (htl : g.get? tell = some oTl) (dtl : oTl.data = .func fd) (ht : TellOk w tell lg n g gs d os kf szf) (hCd : CodeHd g 208 204) (hBt : g.BuiltinsAt mg 204)
    (hTb : TabOk g lookL.2.2.2 ("_law_taken" ++ ".<locals>." ++ "<lambda>") ps)
    (a0 : 1 ≤ l0.length) (a1 : 1 ≤ l1.length) (b0 : l0.length ≤ 9) (b1 : l1.length ≤ 9) (c0 : l0.length ≤ ks0.length) (c1 : l1.length ≤ ks1.length) (d0 : l0.length ≤ szf 0) (d1 : l1.length ≤ szf 1)
    (q : ∀ (a : Addr) (h' : Heap) (t' : Nat) (T : List Value) (c : Nat) (l0' l1' : List Value) (m0 m1 : Nat) (ys : List Int) (ps' : Array Value) (own : List (Addr × Obj)),
      (if l0.length ≤ l1.length then Outcome 0 l0 l1 (ks0.getD (l0.length - 1) 0) (fun i => kf 1 i) (2 ^ Nat.log2 (l1.length / l0.length)) (fun i => entry 1 i (l0.length - 1)) T l0' l1' ys
        else Outcome 1 l1 l0 (ks1.getD (l1.length - 1) 0) (fun i => kf 0 i) (2 ^ Nat.log2 (l0.length / l1.length)) (fun i => entry 0 i (l1.length - 1)) T l1' l0' ys) →
      Sub g h' → h'.get? a = some (listOf (List.toArray T) c) → h.objs.size ≤ a → h'.get? p0 = some (accO x0 (List.toArray l0') m0) → h'.get? p1 = some (accO x1 (List.toArray l1') m1) → LogAt h' lg (xs ++ ys) → h'.get? 204 = some (tabObj ps') →
      (∀ p ∈ own, h.objs.size ≤ p.1 ∧ h'.get? p.1 = some p.2) → (∀ h'', (∀ p ∈ own, h''.get? p.1 = some p.2) → ∀ z, TabOk h'' z ("_law_taken" ++ ".<locals>." ++ "<lambda>") ps → TabOk h'' z ("_law_taken" ++ ".<locals>." ++ "<lambda>") ps') → Q (.ref a) ⟨h', gs, d, t', os⟩) :
    wpAny (model PW w) A (call (.ref 209) [.ref pl, .ref kl, .ref tell, .int base u, .ref ml] []) Q E ⟨h, gs, d, t, os⟩ := by
  have MK := TK.meth
  refine call_fnC am.room TK.fn G sub sz hW (binds := [("piles", .ref pl), ("keys", .ref kl), ("tell", .ref tell), ("base", .int base u), ("marks", .ref ml)]) (fun pm => BindsTo.of_eq (by kernel_rfl)) ?_
  intro L h₁ t₁ cells F N CA lx kp hL
  obtain ⟨o1, o2, o3, rfl, hC1, hC2, hC3⟩ := CellsAre.three CA
  have am2 := Amb.deeper (n := n + 20) (env := tEnv L) am
  have I0 : ∀ h', Sub g h' → h'.get? p0 = some (accO x0 l0.toArray n0') → Acc h' p0 x0 l0.toArray n0' od0 := fun h' k e => ⟨e, k _ _ hx0⟩
  have I1 : ∀ h', Sub g h' → h'.get? p1 = some (accO x1 l1.toArray n1') → Acc h' p1 x1 l1.toArray n1' od1 := fun h' k e => ⟨e, k _ _ hx1⟩
  refine wpAny_execs_cons ?_
  wtm_at "go2"
  with_reducible refine r_subL (F.keep _ _ hpl) (x := .ref p0) ?_ ?_ ?_ ?_
  · decide
  · decide
  · rfl
  wtm_at "go2"
  refine m_count (name := "part_count") (G.X.keeps F.keep) MK (I0 _ F.keep (n3 N)) hi0 ?_
  wtm_at "go2"
  refine ⟨Kp.fnK MK.count (G.X.keeps F.keep), ?_⟩
  refine count_spec MK.count MK.scount MK.cls MK.sup (G.keeps F.keep) (am2.mono (by lia)) (I0 _ F.keep (n3 N)) ?_
  intro h₂ t₂ u2 k2
  have F := Fr.sub F k2
  have N := News.keep N k2
  wtm_at "go2"
  with_reducible refine r_subL (F.keep _ _ hpl) (x := .ref p1) ?_ ?_ ?_ ?_
  · decide
  · decide
  · rfl
  wtm_at "go2"
  refine m_count (name := "part_count") (G.X.keeps F.keep) MK (I1 _ F.keep (n4 N)) hi1 ?_
  wtm_at "go2"
  refine ⟨Kp.fnK MK.count (G.X.keeps F.keep), ?_⟩
  refine count_spec MK.count MK.scount MK.cls MK.sup (G.keeps F.keep) (am2.mono (by lia)) (I1 _ F.keep (n4 N)) ?_
  intro h₃ t₃ u3 k3
  have F := Fr.sub F k3
  have N := News.keep N k3
  refine PyProof.Rows.le_int ?_
  wtm_at "go2"
  have p0L : p0 < L := lx (p0, accO x0 l0.toArray n0') (by wtm_at "mm")
  have p1L : p1 < L := lx (p1, accO x1 l1.toArray n1') (by wtm_at "mm")
  have lgL : lg < L := lx (lg, listOf ls.toArray lc) (by wtm_at "mm")
  have tbL : (204 : Addr) < L := lx (204, tabObj ps) (by wtm_at "mm")
  have up : ∀ {a b : Addr}, a < L → L < b → a ≠ b := fun h1 h2 => Nat.ne_of_lt (Nat.lt_trans h1 h2)
  have L3 : L < L + 1 + 1 + 1 := Nat.lt_succ_of_lt (Nat.lt_succ_of_lt (Nat.lt_succ_self _))
  have N : News g L h₃ ((L + 1 + 1 + 1, o1) :: (L + 1 + 1, o2) :: (L + 1, o3) :: (p0, accO x0 l0.toArray n0') :: (p1, accO x1 l1.toArray n1') :: (lg, listOf ls.toArray lc) :: (204, tabObj ps) :: []) := N
  have hne : ∀ p ∈ (L + 1 + 1, o2) :: (L + 1, o3) :: (p0, accO x0 l0.toArray n0') :: (p1, accO x1 l1.toArray n1') :: (lg, listOf ls.toArray lc) :: (204, tabObj ps) :: [], p.1 ≠ L + 1 + 1 + 1 :=
    ne_cons (Nat.ne_of_lt (Nat.lt_succ_self _)) (ne_cons (Nat.ne_of_lt (Nat.lt_succ_of_lt (Nat.lt_succ_self _))) (ne_cons (up p0L L3) (ne_cons (up p1L L3) (ne_cons (up lgL L3) (ne_cons (up tbL L3) ne_nil)))))
  refine split_bool ?_ ?_
  · intro hle
    have hle : l0.length ≤ l1.length := by simpa using hle
    wtm_at "go2"
    refine r_stC F N hne hC1 ?_
    intro h₄ o1' F N dS
    show wpAny _ _ (execs (b_taken.drop 1) (tEnv L)) _ _ _
    refine taken_core TK (short := 0) (n := n) G am2 F N dS ⟨_, hC2⟩ (hC3.trans (by with_unfolding_all rfl)) hpp (by decide) (by with_unfolding_all rfl) (by with_unfolding_all rfl) (by with_unfolding_all rfl) (by with_unfolding_all rfl)
      hpl rfl rfl hkl (kS := k0) rfl hk0 hI0 hx0 hi0 hx1 hi1 hml hms hb hX hxl htl dtl ht hCd hBt hTb a0 hle b1 c0 d1 ?_
    intro a h' t' T c lS' lO' nS' nO' ys ps' own hO sg eT hLa eS eO hLg eTb ho hcr
    exact q a h' t' T c lS' lO' nS' nO' ys ps' own (by rw [if_pos hle]; exact hO) sg eT (Nat.le_trans hL (Nat.le_of_lt hLa)) eS eO hLg eTb (fun p hp => ⟨Nat.le_trans hL (Nat.le_of_lt (ho p hp).1), (ho p hp).2⟩) hcr
  · intro hle
    have hle : ¬ l0.length ≤ l1.length := by simpa using hle
    wtm_at "go2"
    refine r_stC F N hne hC1 ?_
    intro h₄ o1' F N dS
    show wpAny _ _ (execs (b_taken.drop 1) (tEnv L)) _ _ _
    have N := News.sub (l' := (L + 1 + 1 + 1, o1') :: (L + 1 + 1, o2) :: (L + 1, o3) :: (p1, accO x1 l1.toArray n1') :: (p0, accO x0 l0.toArray n0') :: (lg, listOf ls.toArray lc) :: (204, tabObj ps) :: []) N (by wtm_at "prm")
    refine taken_core TK (short := 1) (n := n) G am2 F N dS ⟨_, hC2⟩ (hC3.trans (by with_unfolding_all rfl)) (Ne.symm hpp) (by decide) (by with_unfolding_all rfl) (by with_unfolding_all rfl) (by with_unfolding_all rfl) (by with_unfolding_all rfl)
      hpl rfl rfl hkl (kS := k1) rfl hk1 hI1 hx1 hi1 hx0 hi0 hml hms hb hX hxl htl dtl ht hCd hBt hTb a1 (by lia) b0 c1 d0 ?_
    intro a h' t' T c lS' lO' nS' nO' ys ps' own hO sg eT hLa eS eO hLg eTb ho hcr
    exact q a h' t' T c lO' lS' nO' nS' ys ps' own (by rw [if_neg hle]; exact hO) sg eT (Nat.le_trans hL (Nat.le_of_lt hLa)) eO eS hLg eTb (fun p hp => ⟨Nat.le_trans hL (Nat.le_of_lt (ho p hp).1), (ho p hp).2⟩) hcr
end
end Mine
end
-- B27
section
open PySem.Builtin
namespace Mine
structure LenK (K : Frag) : Prop where
  slot : findIn K (.ref 164) "_initial_size" = some none
  nSum : nsIn K mainGlobals "sum" = some none
  nLen : nsIn K mainGlobals "len" = some none
  nEmp : ∃ te, nsIn K mainGlobals "EMPTYSTRING" = some (some (.str "" te))
noncomputable def Tabl (h : Heap) (P : Addr) : Prop := ∃ ps, h.get? P = some (tabObj ps) ∧ TriplesOk ps.toList
theorem Tabl.open {h : Heap} {P : Addr} (T : Tabl h P) : ∃ o ps, h.get? P = some o ∧ o.data = .fields ps ∧ o = tabObj ps ∧ TriplesOk ps.toList := let ⟨ps, a, b⟩ := T; ⟨_, ps, a, rfl, rfl, b⟩
section
variable {prog : Program} {w : World} {A : Around} {E : Value → Shared → Prop} {K : Frag} {h : Heap} {gs : Array GenState} {d : Drawn} {t : Nat} {os : OsState} {x dx : Addr} {its : Array Value} {n : Nat} {od : Obj} {Q : Value → Shared → Prop}
theorem onlga : (onTheHeap (.ref 164) && Value.builtin "list.__getattribute__" == Value.builtin "object.__getattribute__") = false := by
  rw [show (Value.builtin "list.__getattribute__" == Value.builtin "object.__getattribute__") = false from by decide +kernel, Bool.and_false]
theorem r_ini {v : Value} {e : Bool} {s : Shared} (X : K.In s.heap) (C : ClsK K) (hs : findIn K (.ref 164) "_initial_size" = some none) (I : Acc s.heap x dx its n od) (hi : IniD od v) (hv : handedIn v = true) (q : Q v { s with toks := s.toks + 1 }) :
    wpAny (model prog w) A (getAttr (.ref x) "_initial_size" e) Q E s := by
  obtain ⟨cd, hc, -, hd⟩ := C.cls
  obtain ⟨hsh, tk, k, rfl⟩ := hi
  have hf : findObj K 164 (some { cls := .type "dict", data := .dict #[⟨hsh, .str "_initial_size" tk, v⟩] k }) "_initial_size" = some (.value v) := by
    unfold findObj
    rw [hc, hs]
    simp only [Option.bind_some]
    unfold W.ownOf
    rw [hd, if_pos rfl]
    simp only
    rw [lookIn_dict]
    rfl
  have L0 := I.inst.type (M := model prog w)
  have LF := looks_find (M := model prog w) X I.inst hf
  have hb : Looks (model prog w) s.heap (hookBefore (.ref 164)) none := looks_hook (mc := .ref 164) X (by rw [if_pos (by rfl)]; exact C.gat)
  refine wpAny_bind (wpAny_mkText (wpAny_holding (wpAny_bind (L0 _ _ _ _ (fun zz zz e => e) (wpAny_bind (looks_findIn X C.ga _ _ _ _ (fun zz zz e => e) ?_))))))
  dsimp only
  rw [onlga, if_neg (by decide)]
  refine wpAny_bind (hb _ _ _ _ (fun zz zz e => e) (wpAny_bind (wpAny_attempt (wpAny_holding ?_))))
  unfold callGetattribute
  rw [show (e && onTheHeap (Value.builtin "list.__getattribute__")) = false from Bool.and_false _, if_neg (by decide)]
  unfold boundAndCalled
  rw [PySem.F.slot_list_getattribute.bind]
  refine wpAny_bind (wpAny_pure ?_)
  show wpAny _ _ (call (.builtin "list.__getattribute__") [.ref x, .str "_initial_size" s.toks]) _ _ _
  refine call_accS (s := { s with toks := s.toks + 1 }) (nm := "__getattribute__") X C I (by decide +kernel) (by decide +kernel) PySem.F.slot_list_getattribute.plain PySem.F.entry_list_ga (PySem.F.args_list_getattribute_2 _ _) ?_
  unfold Builtin.«object.__getattribute__»
  refine wpAny_bind (wpAny_of_eq (a := ((.ref x : Value), [Value.str "_initial_size" s.toks])) (by rfl) ?_)
  dsimp only
  refine wpAny_bind (wpAny_of_eq (a := ("_initial_size" : Str)) (by rfl) ?_)
  refine wpAny_bind (L0 _ _ _ _ (fun zz zz e => e) (wpAny_bind (LF _ _ _ _ (fun zz zz e => e) ?_)))
  refine wpAny_pure ⟨v, rfl, ?_⟩
  rw [handedOut_of hv]
  exact wpAny_pure q
theorem isCode_of {c P : Addr} (C : CodeHd h c P) (T : Tabl h P) : ∃ ps, h.IsCode c P ps ∧ h.TableAt c P ps := by
  obtain ⟨o, vs, file, tf, flags, tg, inF, text, tt, e1, e2, e3, e4, e5, e6, e7, e8, e9, e10⟩ := C
  obtain ⟨ps, f1, f3⟩ := T
  exact ⟨ps, ⟨o, vs, file, tf, flags, tg, inF, text, tt, _, e1, e3, e5, e6, e7, e8, e9, f1, rfl, f3, e10⟩, ⟨o, vs, e1, e2, e3, e4⟩, f1⟩
theorem tabl_of {c P : Addr} {ps : Array Value} (C : h.IsCode c P ps) (T : h.get? P = some (tabObj ps)) : Tabl h P := by
  obtain ⟨o, vs, file, tf, flags, tg, inF, text, tt, op, e1, e2, e3, e4, e5, e6, e7, e8, e9, e10, e11⟩ := C
  exact ⟨ps, T, e10⟩
theorem r_gcode {M : Model} {s : Shared} {env : Env} {c P : Addr} {ps : Array Value} {pos : Pos} {qualname : Str} {scope : Scope} {Q : Value → Shared → Prop} (hc : env.code = .ref c) (C : s.heap.IsCode c P ps) (T : s.heap.TableAt c P ps)
    (q : ∀ code h' tk ps', Heap.ExtBut P s.heap h' → h'.IsCode c P ps' → h'.get? P = some (tabObj ps') → Q code { s with heap := h', toks := tk }) : wpAny M A (genexprCode env pos qualname scope) Q E s := by
  cases hf : codeAmong pos ps.toList with
  | some cv => exact wpAny_genexprCode_hit hc C hf (q cv s.heap s.toks ps (Heap.ExtBut.refl _ _) C T.2)
  | none => exact wpAny_genexprCodeX hc C T hf fun c' h' tk hx zz zz hC zz hT zz => q _ h' tk _ hx hC hT.2
noncomputable def Ht (H : Heap) (I x : Addr) (i : Nat) (h : Heap) : Prop := (∃ o, h.get? I = some o ∧ o.cls = .type "list_iterator" ∧ o.data = .fields #[.ref x, .int i 0]) ∧ ∀ b o, b ≠ I → H.get? b = some o → h.get? b = some o
noncomputable def PtOf (ps : List (Str × Str)) (i : Nat) (vals : Array Value) : Prop := ∃ a b t u, vals = #[.str a t, .str b u] ∧ ps[i]? = some (a, b)
theorem walks_acc {H : Heap} {I : Addr} {us : List Value} {ps : List (Str × Str)} {oI : Obj} (hx : H.get? x = some (accO dx us.toArray n)) (hI : H.get? I = some oI) (hIc : oI.cls = .type "list_iterator") (hP : Pcs (fun a o => H.get? a = some o) us ps) (hA : A.handled = none) :
    WalksU prog w A I (List.range H.objs.size) [I] us.length (PtOf ps) (Ht H I x) (fun i T h => T ≠ I ∧ Ht H I x (i + 1) h) where
  sub := fun b hb => by
    rw [List.mem_singleton.mp hb]
    exact List.mem_range.mpr (Heap.lt_size hI)
  frame := fun i h h' ⟨⟨o, ho, hc⟩, hk⟩ k => ⟨⟨o, k I (List.mem_range.mpr (Heap.lt_size hI)) _ ho, hc⟩, fun b ob hb e => k b (List.mem_range.mpr (Heap.lt_size e)) _ (hk b ob hb e)⟩
  item := fun i s Q E hi st hQ => by
    obtain ⟨⟨o, ho, hc, hd⟩, hk⟩ := st
    have hxI : x ≠ I := ne_of_get hx hI (by intro e; rw [← e] at hIc; exact absurd hIc (by simp))
    have hv : us.toArray[i]? = some us[i] := by simp [hi]
    obtain ⟨a, s1, s2, u1, u2, e, ha, hps⟩ := hP.get (show us[i]? = some us[i] by simp [hi])
    rw [e] at hv
    have haI : a ≠ I := ne_of_get ha hI (by intro q; rw [← q] at hIc; exact absurd (Value.type.inj hIc) (by decide))
    refine next_item ⟨o, ho, hc, hd⟩ (hk x _ hxI hx) rfl hv fun h' hI' hs => ?_
    have hk' : ∀ b o, b ∉ [I] → s.heap.get? b = some o → h'.get? b = some o := fun b o hb e => (hs.2 b (fun q => hb (q ▸ .head _))).trans e
    refine hQ a #[.str s1 u1, .str s2 u2] h' s.toks ⟨s1, s2, u1, u2, rfl, hps⟩ ⟨_, hk' _ _ (by simpa using haI) (hk a _ haI ha), rfl, _, rfl⟩ ⟨haI, hI', fun b ob hb eb => hk' _ _ (by simpa using hb) (hk b ob hb eb)⟩ hk'
  go := fun elts k pos i T s Q E ⟨hT, hm⟩ hQ => by
    obtain ⟨⟨o, ho, hc⟩, hk⟩ := hm
    exact wpAny_letOwnedTupleGo_listiter (l := x) (i := i + 1) ⟨o, ho, hc⟩ (hQ s.heap ⟨⟨o, ho, hc⟩, hk⟩ fun zz zz zz e => e)
  apart := fun i T h ⟨hT, _⟩ => by simpa using hT
  done := fun s Q E st hQ => by
    obtain ⟨⟨o, ho, hc, hd⟩, hk⟩ := st
    have hxI : x ≠ I := ne_of_get hx hI (by intro e; rw [← e] at hIc; exact absurd hIc (by simp))
    refine next_end hA ⟨o, ho, hc, hd⟩ (hk x _ hxI hx) rfl (Array.getElem?_eq_none (by simp)) fun h' hs => ?_
    exact hQ h' s.toks fun b o hb e => hs b o (by simpa using hb) e
  self := fun i s Q E st hQ => by
    obtain ⟨⟨o, ho, hc⟩, hk⟩ := st
    exact wpAny_pyIter_listiter (l := x) (i := i) ⟨o, ho, hc⟩ hQ
theorem shiftS {I : Addr} {fp wr : List Addr} {G : Array GenState → Array GenState → Prop} {n : Nat} {P : Nat → Value → Prop} {St : Nat → Shared → Prop} (W : WalksS prog w A I fp wr G n P St) (P0 : Value → Prop) :
    WalksS prog w A I fp wr G (n + 1) (fun i v => match i with | 0 => P0 v | i + 1 => P i v) (fun i s => match i with | 0 => False | i + 1 => St i s) where
  sub := W.sub
  grefl := W.grefl
  gtrans := W.gtrans
  frame := fun i s h' tk st htk k => match i, st with | i + 1, st => W.frame i s h' tk st htk k
  item := fun i s Q E hi st hQ => match i, hi, st, hQ with | i + 1, hi, st, hQ => W.item i s Q E (Nat.lt_of_succ_lt_succ hi) st hQ
  done := W.done
  self := fun i s Q E st hQ => match i, st with | i + 1, st => W.self i s Q E st hQ
theorem preSum_shift (v0 : Int) (val : Nat → Int) : ∀ n, preSum (fun i => match i with | 0 => v0 | i + 1 => val i) (n + 1) = v0 + preSum val n
  | 0 => by simp [preSum]
  | n + 1 => by
    rw [preSum, preSum_shift v0 val n]
    simp only [preSum]
    lia
theorem args_sum2 (a b : Value) : argsOk "sum" ⟨[a, b], []⟩ := by unfold argsOk; kernel_rfl
theorem call_sum2 {s : Shared} {I : Addr} {fp wr : List Addr} {G : Array GenState → Array GenState → Prop} {n : Nat} {P : Nat → Value → Prop} {St : Nat → Shared → Prop} {val : Nat → Int} {i0 : Int} {u0 : Tok}
    (W : WalksS prog w A.in1 I fp wr G n P St) (hval : ∀ i v, P i v → ∃ t, v = .int (val i) t) (hst : St 0 s) (hfp : ∀ b ∈ fp, b < s.heap.objs.size) (h0 : -(2 ^ 63) ≤ i0) (h1 : i0 < 2 ^ 63)
    (q : ∀ s' t', Moved wr G s s' → Q (.int (i0 + preSum val n) t') s') : wpAny (model prog w) A (call (.builtin "sum") [.ref I, .int i0 u0]) Q E s := by
  refine call_function_tree PySem.F.kind_sum PySem.F.plain_sum PySem.F.entry_sum (args_sum2 _ _) ?_
  unfold Builtin.«sum»
  simp only [List.length_cons, List.length_nil]
  rw [if_neg (by decide)]
  refine wpAny_bind (wpAny_of_eq (show Builtin.Builtins.bindParams "sum" ["start"] 0 ⟨[.int i0 u0], []⟩ = pure [some (.int i0 u0)] from rfl) ?_)
  refine wpAny_bind (W.self 0 s _ _ hst ?_)
  dsimp only
  have hfit : (decide (-(2 ^ 63) ≤ i0) && decide (i0 < 2 ^ 63)) = true := by simp only [Bool.and_eq_true, decide_eq_true_eq]; exact ⟨h0, h1⟩
  split
  case isFalse hn => exact absurd hfit hn
  refine wpAny_bind (wpAny_rule (wpAny_bind (wpAny_mkInt (wpAny_bind (wpAny_pure ?_)))))
  simp only [List.forIn_cons, List.forIn_nil]
  refine wpAny_bind (wpAny_bind (wpAny_bind (wpAny_isInstance (T := "int") (b := false) (typeIs_int _ _ _) PySem.sub_int_str ?_)))
  simp only [Bool.false_eq_true, if_false]
  refine wpAny_pure (wpAny_bind (wpAny_bind (wpAny_isInstance (T := "int") (b := false) (typeIs_int _ _ _) PySem.sub_int_bytes ?_)))
  simp only [Bool.false_eq_true, if_false]
  refine wpAny_pure (wpAny_bind (wpAny_bind (wpAny_isInstance (T := "int") (b := false) (typeIs_int _ _ _) PySem.sub_int_bytearray ?_)))
  simp only [Bool.false_eq_true, if_false]
  refine wpAny_pure (wpAny_pure ?_)
  refine wpAny_bind (wpAny_newObj_type ?_)
  have hSf : s.heap.objs.size ∉ fp := fun hm => Nat.lt_irrefl _ (hfp _ hm)
  have W2 := shiftS W (fun v => ∃ t, v = .int i0 t)
  refine wpAny_pure ⟨plainId_quiet PySem.F.plain_sum_loop _, codeAny_sum_loopAnyS W2 (fun i => match i with | 0 => i0 | i + 1 => val i) (fun i v hv => ?_) s.heap.objs.size hSf n 1 _ s.toks 0 0 (.inl rfl) (by lia) (by lia)
    (W.frame 0 s _ _ hst (Nat.le_succ _) fun b zz o e => Heap.get?_push_of_some _ e) ?_ fun s' t' hm => ?_⟩
  · cases i with
    | zero => exact hv
    | succ i => exact hval i v hv
  · rw [preSum_shift i0 val 0]
    simp only [preSum, Int.add_zero]
    exact Heap.get?_push_size _ rfl
  · rw [preSum_shift]
    exact q s' t' (hm.drop_new (Nat.le_succ _))
end
end Mine
end
-- F19
section
namespace Mine
noncomputable def sz2 (p : Str × Str) : Int := ((p.1.length + p.2.length : Nat) : Int)
noncomputable def total (ps : List (Str × Str)) : Int := (ps.map sz2).sum
theorem preSum_map (ps : List (Str × Str)) : ∀ n, n ≤ ps.length → preSum (fun i => sz2 (ps.getD i ("", ""))) n = total (ps.take n)
  | 0, _ => rfl
  | n + 1, hn => by
    have : ps[n]? = some ps[n] := List.getElem?_eq_getElem (by lia)
    rw [preSum, preSum_map ps n (by lia), List.take_add_one, this]
    unfold total
    rw [List.map_append, List.sum_append]
    simp [List.getD_eq_getElem?_getD, this]
theorem Pcs.mk {O : Addr → Obj → Prop} {vs : List Value} {ps : List (Str × Str)} (p : Pcs O vs ps) : Pcs (fun a o => O a o ∧ ∃ us, o = tupO us) vs ps := by
  induction p with
  | nil => exact .nil
  | cons a x y t u ho _ ih => exact .cons a x y t u ⟨ho, _, rfl⟩ ih
section
variable {w : World} {A : Around} {E : Value → Shared → Prop} {K : Frag} {mg mb : Str → Option Value} {Q : Value → Shared → Prop} {h : Heap} {gs : Array GenState} {d : Drawn} {t : Nat} {os : OsState} {x dx : Addr} {n : Nat} {od : Obj}
set_option maxHeartbeats 1000000 in
theorem len_spec (MK : MthK K) (LK : LenK K) (G : Gd K mg mb (h.hide 126)) (hCd : CodeHd (h.hide 126) 130 126) (hBt : (h.hide 126).BuiltinsAt mg 126) (hT : Tabl h 126) (am : Amb A 6) {us : List Value} {ps : List (Str × Str)} {i0 : Int} {u0 : Tok}
    (I : Acc h x dx us.toArray n od) (hi : IniD od (.int i0 u0)) (hP : Pcs (fun a o => h.get? a = some o) us ps) (h0 : 0 ≤ i0) (h1 : i0 < 1000)
    (hsm : ∀ p ∈ ps, p.1.length + p.2.length < 1000)
    (q : ∀ h' gs' t' u, (AllBare gs → AllBare gs') → Sub (h.hide 126) h' → Tabl h' 126 → Q (.int (i0 + total ps) u) ⟨h', gs', d, t', os⟩) :
    wpAny (model PW w) A (call (.ref 131) [.ref x] []) Q E ⟨h, gs, d, t, os⟩ := by
  obtain ⟨oP, pt, eP, dP, hoP, tP⟩ := hT.open
  refine call_fn am.room MK.len G (hideSub h 126) (Nat.le_of_eq (Heap.hide_size h 126)) (W := [(126, oP)]) ?_ (binds := [("self", .ref x)]) (fun pm => BindsTo.of_eq (by kernel_rfl)) ?_
  · intro p hp
    rcases List.mem_cons.mp hp with rfl | hp
    · exact ⟨eP, Heap.hide_self h 126⟩
    · cases hp
  intro L h₁ t₁ F N lx kp hL
  have am2 := Amb.deeper (n := 5) (env := envX "_Accumulator.__len__" s_len L 131 (.ref 130) []) am
  have I₁ := I.keeps kp
  refine wpAny_execs_cons ?_
  wtm_at "go2"
  with_reducible refine nm_B F G LK.nSum bb_sum ?_
  wtm_at "go2"
  refine wpAny_GeneratorExp_walksQT (cl := []) am2.hd rfl (by with_unfolding_all rfl) (by decide) (by with_unfolding_all rfl) (by with_unfolding_all rfl) (by with_unfolding_all rfl) (by decide) (by with_unfolding_all rfl) am2.room ?_ (by intro _; with_unfolding_all rfl)
  wtm_at "go2"
  refine acc_iter (G.X.keeps F.keep) MK.cls I₁ ?_
  have hI0 : h₁.get? 126 = some oP := n0 N
  have l126 : (126 : Nat) < h₁.objs.size := Heap.lt_size hI0
  have ex : x ≠ 126 := ne_of_get I.at_ eP (by intro e; rw [← e] at dP; cases dP)
  have ed : dx ≠ 126 := ne_of_get I.dict eP (by obtain ⟨_, _, _, rfl⟩ := hi; intro e; rw [← e] at dP; cases dP)
  have nl1 := (G.keeps F.keep).nl
  refine ⟨nl1.keeps (pushSub _ _), ?_⟩
  dsimp only
  have C1 : CodeHd (h₁.push (listIt x 0)) 130 126 := hCd.keeps fun b o e => pushSub _ _ _ _ (F.keep b o e)
  obtain ⟨pt1, hIC, hTA⟩ := isCode_of C1 ⟨pt, hoP ▸ pushSub _ _ _ _ hI0, tP⟩
  refine r_gcode (c := 130) (P := 126) (by with_unfolding_all rfl) hIC hTA ?_
  intro code h₃ tk ps' hx3 hc3 ht3
  have k3 : ∀ b o, b ≠ 126 → h₁.get? b = some o → h₃.get? b = some o := fun b o hb e => hx3 b o hb (pushSub _ _ _ _ e)
  have sg3 : Sub (h.hide 126) h₃ := fun b o e => k3 b o (fun q => by rw [q, Heap.hide_self] at e; cases e) (F.keep b o e)
  have G3 := G.keeps sg3
  obtain ⟨bm, ob, b1, b2, b3, b4, b5, b6, b7, b8⟩ := id hBt
  refine wpAny_builtinsFor (m := mg) G3.gl b1 b2 (sg3 _ _ b5) b6 b7 b8 ?_
  have eI : h₃.get? h₁.objs.size = some (listIt x 0) := hx3 _ _ (Nat.ne_of_gt l126) (Heap.get?_push_size _ rfl)
  have eX : h₃.get? x = some (accO dx us.toArray n) := k3 _ _ ex I₁.at_
  have P3 : Pcs (fun a o => h₃.get? a = some o) us ps := Pcs.mono (O := fun a o => h.get? a = some o ∧ ∃ vs, o = tupO vs) (fun a o ⟨e, vs, ho⟩ => k3 _ _ (ne_of_get e eP (by intro q; rw [ho] at q; rw [← q] at dP; cases dP)) (kp _ _ e)) (Pcs.mk hP)
  have gI : (h.hide 126).get? h₁.objs.size = none := none_of_size (by rw [Heap.hide_size]; exact Nat.le_trans hL (Nat.le_of_lt (Fr.lt F)))
  have lI3 : h₁.objs.size < h₃.objs.size := Heap.lt_size eI
  refine ⟨h₁.objs.size, List.range h₃.objs.size, [h₁.objs.size], us.length, PtOf ps, Ht h₃ h₁.objs.size x, fun i T h => T ≠ h₁.objs.size ∧ Ht h₃ h₁.objs.size x (i + 1) h, fun zz => true,
    fun i v => ∃ a b t, ps[i]? = some (a, b) ∧ v = .int (sz2 (a, b)) t, rfl, fun A' hA => walks_acc eX eI rfl P3 hA, fun i vals ⟨a, b, t, u, e, _⟩ => ⟨_, _, e⟩, ⟨⟨_, eI, rfl, rfl⟩, fun b o zz e => e⟩, fun b hb => List.mem_range.mp hb, G3.nl, ?_, ?_, ?_⟩
  · intro hm
    obtain ⟨_, hn, _⟩ := nl1
    have := hn.lt
    rw [List.mem_singleton.mp hm] at this
    exact absurd this (Nat.lt_irrefl _)
  · intro href hkr
    refine ⟨?_, ?_⟩
    · intro A' E' i va vb s₂ m₂ hA hPt hns ha hb hkp
      rw [List.forIn_nil]
      exact wpAny_pure ⟨rfl, s₂.heap, s₂.toks, rfl, fun zz zz e => e⟩
    · intro A' E' i va vb s₂ m₂ hA hPt _ hns ha hb hkp
      obtain ⟨a, b, t1, u1, e, hps⟩ := hPt
      obtain ⟨rfl, rfl⟩ : va = .str a t1 ∧ vb = .str b u1 := by simpa using e
      obtain ⟨hh, g2, d2, t2, os2⟩ := s₂
      have F2 : Fr (h₃.hide h₁.objs.size) h₃.objs.size hh m₂ := ⟨hns, fun b o eb => by
        have hb : b ≠ h₁.objs.size := fun q => by rw [q, Heap.hide_self] at eb; cases eb
        have e3 := Heap.of_hide eb
        exact hkp b (List.mem_range.mpr (Heap.lt_size e3)) (by simpa using hb) o (hkr _ _ e3), by rw [Heap.hide_size]; exact Nat.le_refl _⟩
      have G2 := G.keeps (subHide sg3 gI)
      have hab := hsm _ (List.mem_of_getElem? hps)
      wtm_at "go2"
      with_reducible refine nm_B F2 G2 LK.nLen bb_len ?_
      wtm_at "go2"
      refine PyProof.Rows.len_str (s := ⟨hh, g2, d2, _, os2⟩) (by dsimp only at hab; lia) ?_
      wtm_at "go2"
      with_reducible refine nm_B F2 G2 LK.nLen bb_len ?_
      wtm_at "go2"
      refine PyProof.Rows.len_str (s := ⟨hh, g2, d2, _, os2⟩) (by dsimp only at hab; lia) ?_
      wtm_at "go2"
      have ez : (a.length : Int) + (b.length : Int) = sz2 (a, b) := by unfold sz2; exact (Int.natCast_add _ _).symm
      rw [ez]
      exact ⟨⟨a, b, _, hps, rfl⟩, hh, _, rfl, fun zz zz e => e⟩
  · intro a h₅ tk5 gs5 hbare hlt hsz5 hk5 W GA
    have F5 : Fr (h.hide 126) L h₅ _ := Fr.ext F (Ne.symm (N _ (.head _)).2.1.symm) (Heap.hide_self h 126) (fun b o hb e => hk5 _ _ (k3 b o hb e))
    wtm_at "go2"
    refine Attribute_name ?_
    wtm_at "go2"
    have I5 : Acc h₅ x dx us.toArray n od := ⟨hk5 _ _ eX, hk5 _ _ (k3 _ _ ed I₁.dict)⟩
    refine r_ini (s := ⟨h₅, _, d, _, os⟩) (G.X.keeps F5.keep) MK.cls LK.slot I5 hi rfl ?_
    wtm_at "go2"
    have hfp : ∀ b ∈ a :: h₃.objs.size :: List.range h₃.objs.size, b < h₅.objs.size := fun b hb => by
      rcases List.mem_cons.mp hb with rfl | hb
      · rw [hsz5]; exact Nat.lt_succ_self _
      · rcases List.mem_cons.mp hb with rfl | hb
        · rw [hsz5]; exact Nat.lt_succ_of_lt hlt
        · rw [hsz5]; exact Nat.lt_succ_of_lt (Nat.lt_trans (List.mem_range.mp hb) hlt)
    refine call_sum2 (s := ⟨h₅, _, d, _, os⟩) (val := fun i => sz2 (ps.getD i ("", ""))) W.in4_1 ?_ (W.frame 0 _ h₅ (tk5 + 1) GA (Nat.le_succ _) fun zz zz zz e => e) hfp (by lia) (by lia) ?_
    · rintro i v ⟨j, hj, a', b', t', e1, e2⟩
      have hji : j = i := by
        have hp : passing (fun zz => true) us.length 0 = List.range us.length := by simp [passing]
        rw [hp] at hj
        have := List.getElem?_eq_some_iff.mp hj
        obtain ⟨hl, he⟩ := this
        simpa using he.symm
      subst hji
      exact ⟨t', by rw [e2]; simp [List.getD_eq_getElem?_getD, e1]⟩
    · intro s' t' hm
      obtain ⟨h6, g6, d6, t6, os6⟩ := s'
      have hd := hm.drawn
      have ho := hm.os
      dsimp only at hd ho
      subst hd
      subst ho
      have hp : (passing (fun zz => true) us.length 0).length = ps.length := by
        have : passing (fun zz => true) us.length 0 = List.range us.length := by simp [passing]
        rw [this, List.length_range]; exact Pcs.length hP
      rw [hp, preSum_map ps _ (Nat.le_refl _), List.take_length]
      have k6 : ∀ b o, h₃.get? b = some o → b ≠ h₁.objs.size → h6.get? b = some o := fun b o e hb => hm.heap b o (by
        intro hmm
        rcases List.mem_cons.mp hmm with q | q
        · rw [q] at e; exact absurd (Heap.lt_size e) (Nat.lt_irrefl _)
        · exact hb (List.mem_singleton.mp q)) (hk5 _ _ e)
      refine q h6 g6 t6 t' (fun hb => (hb.push hbare).moved hm.gens) (fun b o e => k6 b o (sg3 _ _ e) (fun q => by rw [q, gI] at e; cases e)) ?_
      obtain ⟨pT, z1, z3⟩ := tabl_of hc3 ht3
      exact ⟨pT, k6 _ _ z1 (Nat.ne_of_lt l126), z3⟩
end
end Mine
end
-- F20
section
namespace Mine
noncomputable def jn (p : Str × Str) : Str := Txt.join "" [p.1, p.2]
theorem jn_len (p : Str × Str) : (jn p).length = p.1.length + p.2.length := by
  show (p.1.cps ++ (Str.ofString "").cps ++ p.2.cps).size = _
  rw [Array.size_append, Array.size_append]
  rfl
section
variable {w : World} {A : Around} {E : Value → Shared → Prop} {K : Frag} {mg mb : Str → Option Value} {Q : Value → Shared → Prop} {h : Heap} {gs : Array GenState} {d : Drawn} {t : Nat} {os : OsState} {x dx : Addr} {n : Nat} {od : Obj}
set_option maxHeartbeats 1000000 in
theorem str_spec (MK : MthK K) (LK : LenK K) (G : Gd K mg mb (h.hide 133)) (hCd : CodeHd (h.hide 133) 137 133) (hBt : (h.hide 133).BuiltinsAt mg 133) (hT : Tabl h 133) (am : Amb A 6) {us : List Value} {ps : List (Str × Str)} {i0 : Int} {u0 : Tok}
    (I : Acc h x dx us.toArray n od) (hi : IniD od (.int i0 u0)) (hP : Pcs (fun a o => h.get? a = some o) us ps) (h0 : 0 ≤ i0) (h1 : i0 < 1000)
    (hsm : ∀ p ∈ ps, p.1.length + p.2.length < 1000) (hpl : ps.length ≤ 1000)
    (q : ∀ h' gs' t' u, (AllBare gs → AllBare gs') → Sub (h.hide 133) h' → Tabl h' 133 → Q (.str (Txt.join "" (ps.map jn)) u) ⟨h', gs', d, t', os⟩) :
    wpAny (model PW w) A (call (.ref 138) [.ref x] []) Q E ⟨h, gs, d, t, os⟩ := by
  obtain ⟨oP, pt, eP, dP, hoP, tP⟩ := hT.open
  refine call_fn am.room MK.str G (hideSub h 133) (Nat.le_of_eq (Heap.hide_size h 133)) (W := [(133, oP)]) ?_ (binds := [("self", .ref x)]) (fun pm => BindsTo.of_eq (by kernel_rfl)) ?_
  · intro p hp
    rcases List.mem_cons.mp hp with rfl | hp
    · exact ⟨eP, Heap.hide_self h 133⟩
    · cases hp
  intro L h₁ t₁ F N lx kp hL
  have am2 := Amb.deeper (n := 5) (env := envX "_Accumulator.__str__" s_str L 138 (.ref 137) []) am
  have I₁ := I.keeps kp
  refine wpAny_execs_cons ?_
  wtm_at "go2"
  obtain ⟨te, nEmp⟩ := LK.nEmp
  with_reducible refine nm_K F G nEmp ?_
  refine PySem.GM.join ?_
  wtm_at "go2"
  refine wpAny_GeneratorExp_walksQT (cl := []) am2.hd rfl (by with_unfolding_all rfl) (by decide) (by with_unfolding_all rfl) (by with_unfolding_all rfl) (by with_unfolding_all rfl) (by decide) (by with_unfolding_all rfl) am2.room ?_ (by intro _; with_unfolding_all rfl)
  wtm_at "go2"
  refine acc_iter (G.X.keeps F.keep) MK.cls I₁ ?_
  have hI0 : h₁.get? 133 = some oP := n0 N
  have l133 : (133 : Nat) < h₁.objs.size := Heap.lt_size hI0
  have ex : x ≠ 133 := ne_of_get I.at_ eP (by intro e; rw [← e] at dP; cases dP)
  have ed : dx ≠ 133 := ne_of_get I.dict eP (by obtain ⟨_, _, _, rfl⟩ := hi; intro e; rw [← e] at dP; cases dP)
  have nl1 := (G.keeps F.keep).nl
  refine ⟨nl1.keeps (pushSub _ _), ?_⟩
  dsimp only
  have C1 : CodeHd (h₁.push (listIt x 0)) 137 133 := hCd.keeps fun b o e => pushSub _ _ _ _ (F.keep b o e)
  obtain ⟨pt1, hIC, hTA⟩ := isCode_of C1 ⟨pt, hoP ▸ pushSub _ _ _ _ hI0, tP⟩
  refine r_gcode (c := 137) (P := 133) (by with_unfolding_all rfl) hIC hTA ?_
  intro code h₃ tk ps' hx3 hc3 ht3
  have k3 : ∀ b o, b ≠ 133 → h₁.get? b = some o → h₃.get? b = some o := fun b o hb e => hx3 b o hb (pushSub _ _ _ _ e)
  have sg3 : Sub (h.hide 133) h₃ := fun b o e => k3 b o (fun q => by rw [q, Heap.hide_self] at e; cases e) (F.keep b o e)
  have G3 := G.keeps sg3
  obtain ⟨bm, ob, b1, b2, b3, b4, b5, b6, b7, b8⟩ := id hBt
  refine wpAny_builtinsFor (m := mg) G3.gl b1 b2 (sg3 _ _ b5) b6 b7 b8 ?_
  have eI : h₃.get? h₁.objs.size = some (listIt x 0) := hx3 _ _ (Nat.ne_of_gt l133) (Heap.get?_push_size _ rfl)
  have eX : h₃.get? x = some (accO dx us.toArray n) := k3 _ _ ex I₁.at_
  have P3 : Pcs (fun a o => h₃.get? a = some o) us ps := Pcs.mono (O := fun a o => h.get? a = some o ∧ ∃ vs, o = tupO vs) (fun a o ⟨e, vs, ho⟩ => k3 _ _ (ne_of_get e eP (by intro q; rw [ho] at q; rw [← q] at dP; cases dP)) (kp _ _ e)) (Pcs.mk hP)
  have gI : (h.hide 133).get? h₁.objs.size = none := none_of_size (by rw [Heap.hide_size]; exact Nat.le_trans hL (Nat.le_of_lt (Fr.lt F)))
  have lI3 : h₁.objs.size < h₃.objs.size := Heap.lt_size eI
  refine ⟨h₁.objs.size, List.range h₃.objs.size, [h₁.objs.size], us.length, PtOf ps, Ht h₃ h₁.objs.size x, fun i T h => T ≠ h₁.objs.size ∧ Ht h₃ h₁.objs.size x (i + 1) h, fun zz => true,
    fun i v => ∃ a b t, ps[i]? = some (a, b) ∧ v = .str (jn (a, b)) t, rfl, fun A' hA => walks_acc eX eI rfl P3 hA, fun i vals ⟨a, b, t, u, e, _⟩ => ⟨_, _, e⟩, ⟨⟨_, eI, rfl, rfl⟩, fun b o zz e => e⟩, fun b hb => List.mem_range.mp hb, G3.nl, ?_, ?_, ?_⟩
  · intro hm
    obtain ⟨_, hn, _⟩ := nl1
    have := hn.lt
    rw [List.mem_singleton.mp hm] at this
    exact absurd this (Nat.lt_irrefl _)
  · intro href hkr
    refine ⟨?_, ?_⟩
    · intro A' E' i va vb s₂ m₂ hA hPt hns ha hb hkp
      rw [List.forIn_nil]
      exact wpAny_pure ⟨rfl, s₂.heap, s₂.toks, rfl, fun zz zz e => e⟩
    · intro A' E' i va vb s₂ m₂ hA hPt _ hns ha hb hkp
      obtain ⟨a, b, t1, u1, e, hps⟩ := hPt
      obtain ⟨rfl, rfl⟩ : va = .str a t1 ∧ vb = .str b u1 := by simpa using e
      obtain ⟨hh, g2, d2, t2, os2⟩ := s₂
      have F2 : Fr (h₃.hide h₁.objs.size) h₃.objs.size hh m₂ := ⟨hns, fun b o eb => by
        have hb : b ≠ h₁.objs.size := fun q => by rw [q, Heap.hide_self] at eb; cases eb
        have e3 := Heap.of_hide eb
        exact hkp b (List.mem_range.mpr (Heap.lt_size e3)) (by simpa using hb) o (hkr _ _ e3), by rw [Heap.hide_size]; exact Nat.le_refl _⟩
      have G2 := G.keeps (subHide sg3 gI)
      have hab := hsm _ (List.mem_of_getElem? hps)
      wtm_at "go2"
      with_reducible refine nm_K F2 G2 nEmp ?_
      refine PySem.GM.join ?_
      wtm_at "go2"
      refine wpAny_newTuple ?_
      wtm_at "go2"
      refine PyProof.Rows.join_tuple (s := ⟨hh.push (tupO [.str a t1, .str b u1]), g2, d2, _, os2⟩) (ys := [a, b]) (isT (Heap.get?_push_size _ rfl)) (.cons a _ (.cons b _ .nil)) ?_ ?_
      · have e0 : (Str.ofString "").length = 0 := rfl
        dsimp only at hab
        rw [e0]
        simp; lia
      intro t6 k6
      exact ⟨⟨a, b, _, hps, rfl⟩, _, _, rfl, pushSub _ _⟩
  · intro a h₅ tk5 gs5 hbare hlt hsz5 hk5 W GA
    have F5 : Fr (h.hide 133) L h₅ _ := Fr.ext F (Ne.symm (N _ (.head _)).2.1.symm) (Heap.hide_self h 133) (fun b o hb e => hk5 _ _ (k3 b o hb e))
    wtm_at "go2"
    have hfp : ∀ b ∈ a :: h₃.objs.size :: List.range h₃.objs.size, b < h₅.objs.size := fun b hb => by
      rcases List.mem_cons.mp hb with rfl | hb
      · rw [hsz5]; exact Nat.lt_succ_self _
      · rcases List.mem_cons.mp hb with rfl | hb
        · rw [hsz5]; exact Nat.lt_succ_of_lt hlt
        · rw [hsz5]; exact Nat.lt_succ_of_lt (Nat.lt_trans (List.mem_range.mp hb) hlt)
    have hp : passing (fun zz => true) us.length 0 = List.range us.length := by simp [passing]
    have hul := Pcs.length hP
    refine SC.joinGen (s := ⟨h₅, _, d, _, os⟩) W.in4_2 (fun i s st => st.1.typeIs) GA hfp (.head _) ?_ ?_ ?_
    · rintro i v ⟨j, hj, a', b', t', e1, e2⟩
      exact ⟨_, _, e2⟩
    · intro s' l hm hit
      have hl : l.map (·.1) = ps.map jn := by
        obtain ⟨hsz, hat⟩ := hit
        rw [hp, List.length_range, hul] at hsz
        have hsz' : l.length = ps.length := by simpa [strValues] using hsz
        refine List.ext_getElem? fun i => ?_
        rw [List.getElem?_map, List.getElem?_map]
        rcases Nat.lt_or_ge i l.length with hi' | hi'
        · have hlv : (strValues l).toArray[i]? = some (.str l[i].1 l[i].2) := by simp [strValues, hi']
          obtain ⟨j, hj, a', b', t', e1, e2⟩ := hat i _ hlv
          rw [hp] at hj
          have hji : j = i := by
            obtain ⟨hl, he⟩ := List.getElem?_eq_some_iff.mp hj
            simpa using he.symm
          subst hji
          rw [e1, List.getElem?_eq_getElem hi']
          have := (Value.str.inj e2).1
          simp [this]
        · rw [List.getElem?_eq_none hi', List.getElem?_eq_none (by lia)]
          rfl
      rw [hl]
      refine ⟨joinOk_of ?_, ?_⟩
      · have hz : ∀ (qs : List (Str × Str)), (∀ p ∈ qs, p.1.length + p.2.length < 1000) → ((qs.map jn).map (·.length)).sum ≤ qs.length * 1000 := by
          intro qs
          induction qs with
          | nil => intro _; simp
          | cons p r ih =>
            intro hq
            have h1 := hq p (.head _)
            have h2 := ih fun x hx => hq x (.tail _ hx)
            have h3 := jn_len p
            simp only [List.map_cons, List.sum_cons, List.length_cons, Nat.succ_mul] at h2 ⊢
            lia
        have h1 := hz ps hsm
        have h2 : (Str.ofString "").length = 0 := rfl
        rw [h2, Nat.mul_zero]
        lia
      intro t' k
      obtain ⟨h6, g6, d6, t6, os6⟩ := s'
      have hd := hm.drawn
      have ho := hm.os
      dsimp only at hd ho
      subst hd
      subst ho
      have k6 : ∀ b o, h₃.get? b = some o → b ≠ h₁.objs.size → h6.get? b = some o := fun b o e hb => hm.heap b o (by
        intro hmm
        rcases List.mem_cons.mp hmm with q | q
        · rw [q] at e; exact absurd (Heap.lt_size e) (Nat.lt_irrefl _)
        · exact hb (List.mem_singleton.mp q)) (hk5 _ _ e)
      refine q h6 g6 _ t' (fun hb => (hb.push hbare).moved hm.gens) (fun b o e => k6 b o (sg3 _ _ e) (fun q => by rw [q, gI] at e; cases e)) ?_
      obtain ⟨pT, z1, z3⟩ := tabl_of hc3 ht3
      exact ⟨pT, k6 _ _ z1 (Nat.ne_of_lt l133), z3⟩
    · rw [hp, List.length_range, hul, sizeLine_eq]; lia
end
end Mine
end
-- B34
section
namespace Mine
theorem ints_filter {vs : List Value} {ns : List Int} (h : IntsAre vs ns) : ∀ (l : List Nat), ∃ ns', IntsAre (l.filterMap fun i => vs[i]?) ns' ∧ (∀ n ∈ ns', n ∈ ns)
  | [] => ⟨[], .nil, fun zz h => nomatch h⟩
  | i :: l => by
    obtain ⟨ns', h1, h2⟩ := ints_filter h l
    cases e : vs[i]? with
    | none => exact ⟨ns', by simpa [e] using h1, h2⟩
    | some v =>
      have hi : i < vs.length := by
        rcases Nat.lt_or_ge i vs.length with z | z
        · exact z
        · rw [List.getElem?_eq_none z] at e; cases e
      have hl := IntsAre.length h
      obtain ⟨u, hu⟩ := IntsAre.at_ h (show i < ns.length by lia)
      rw [e] at hu
      cases hu
      refine ⟨ns.getD i 0 :: ns', ?_, ?_⟩
      · simp only [List.filterMap_cons, e]
        exact .cons _ _ h1
      · intro n hn
        rcases List.mem_cons.mp hn with rfl | hn
        · have : i < ns.length := by lia
          rw [List.getD_eq_getElem?_getD, List.getElem?_eq_getElem this]
          exact List.getElem_mem this
        · exact h2 n hn
theorem ints_pick {vs : List Value} {ns : List Int} (h : IntsAre vs ns) (lo hi st : Option Int) : ∃ ns', IntsAre (slicePick vs.toArray lo hi st).toList ns' ∧ (∀ n ∈ ns', n ∈ ns) ∧ ns'.length ≤ ns.length := by
  obtain ⟨ns', h1, h2⟩ := ints_filter h (sliceRange (sliceBounds lo hi st vs.toArray.size).1 (sliceBounds lo hi st vs.toArray.size).2.1 (sliceBounds lo hi st vs.toArray.size).2.2)
  have e : (slicePick vs.toArray lo hi st).toList = (sliceRange (sliceBounds lo hi st vs.toArray.size).1 (sliceBounds lo hi st vs.toArray.size).2.1 (sliceBounds lo hi st vs.toArray.size).2.2).filterMap fun i => vs[i]? := by
    unfold slicePick
    simp
  refine ⟨ns', by rw [e]; exact h1, h2, ?_⟩
  have h3 := slicePick_size_le vs.toArray lo hi st
  rw [← e] at h1
  have h4 := IntsAre.length h1
  have h5 := IntsAre.length h
  have h6 : (slicePick vs.toArray lo hi st).toList.length = (slicePick vs.toArray lo hi st).size := by simp
  have h7 : vs.toArray.size = vs.length := by simp
  lia
theorem sum_leB {b : Int} : ∀ {ns : List Int}, (∀ n ∈ ns, 0 ≤ n ∧ n ≤ b) → 0 ≤ ns.sum ∧ ns.sum ≤ b * ns.length
  | [], _ => by simp
  | n :: ns, h => by
    have h1 := h n (.head _)
    have h2 := sum_leB (ns := ns) fun n hn => h n (.tail _ hn)
    simp only [List.sum_cons, List.length_cons, Int.natCast_add, Int.mul_add]
    lia
noncomputable abbrev sliceO3 (vl vu vs : Value) : Obj := { cls := .type "slice", data := .fields #[vl, vu, vs] }
section
variable {prog : Program} {w : World} {M : Model} {A : Around} {E : Value → Shared → Prop} {h g : Heap} {L : Addr} {m : Str → Option Value} {news : List (Addr × Obj)} {gs : Array GenState} {d : Drawn} {t : Nat} {os : OsState} {env : Env} {Q : Value → Shared → Prop}
noncomputable def MkSlice3 (Q : Value → Shared → Prop) (vl vu vs : Value) (s : Shared) : Prop := Q (.ref s.heap.objs.size) { s with heap := s.heap.push (sliceO3 vl vu vs) }
theorem x_Slice3 {s : Shared} {lower upper step : Option Expr} {p : Pos} (h : wpAny M A (evalPart lower env) (fun l s₁ => wpAny M A (evalPart upper env) (fun u s₂ => wpAny M A (evalPart step env) (fun st s₃ => MkSlice3 Q l u st s₃) E s₂) E s₁) E s) : wpAny M A (eval (.Slice lower upper step p) env) Q E s :=
  wpAny_Slice h
theorem r_slice3 {vl vu vs : Value} (F : Fr g L h m) (N : News g L h news)
    (q : ∀ sl h', Fr g L h' m → News g L h' ((sl, sliceO3 vl vu vs) :: news) → (∀ p ∈ news, p.1 < sl) → Sub h h' → h.objs.size ≤ sl → Q (.ref sl) ⟨h', gs, d, t, os⟩) : MkSlice3 Q vl vu vs ⟨h, gs, d, t, os⟩ :=
  q h.objs.size _ (F.push _) (News.push F N _) (fun p hp => Heap.lt_size (N p hp).1) (pushSub _ _) (Nat.le_refl _)
theorem r_sliceL3 {value slice : Expr} {ops : List Value} {l sl : Addr} {xs : List Value} {c : Nat} {vl vu vs : Value} {lo hi st : Option Int} (F : Fr g L h m) (N : News g L h news) (hl : h.get? l = some (listOf xs.toArray c)) (hs : (sl, sliceO3 vl vu vs) ∈ news) (pl : IsPart vl lo) (pu : IsPart vu hi) (pk : IsPart vs st) (h0 : st ≠ some 0) (hsz : xs.length ≤ sizeLine)
    (q : ∀ r h', Fr g L h' m → News g L h' ((r, listOf (slicePick xs.toArray lo hi st) 0) :: news) → (∀ p ∈ news, p.1 < r) → Sub h h' → h.objs.size ≤ r → Q (.ref r) ⟨h', gs, d, t, os⟩)
    (hsub : subscripted slice false (.ref l) (.ref sl) = operate ops (getItem (.ref l) (.ref sl))) : wpAny (model prog w) A (subscriptTail value slice (.ref l) (.ref sl)) Q E ⟨h, gs, d, t, os⟩ :=
  tail_any (isL hl).typeIs slot_list_getitem.lookup (wpAny_getItem_list_slice (isL hl) ⟨_, (N _ hs).1, rfl, rfl⟩ pl pu pk h0 (q h.objs.size _ (F.push _) (News.push F N _) (fun p hp => Heap.lt_size (N p hp).1) (pushSub _ _) (Nat.le_refl _)) (by simpa using hsz)) hsub
theorem r_sum {l : Addr} {vs : List Value} {c : Nat} {ns : List Int} (hh : A.handled = none) (F : Fr g L h m) (N : News g L h news) (hl : h.get? l = some (listOf vs.toArray c)) (hi : IntsAre vs ns)
    (q : ∀ h' tk t', Fr g L h' m → News g L h' news → Q (.int ns.sum t') ⟨h', gs, d, tk, os⟩) :
    wpAny (model prog w) A (call (.builtin "sum") [.ref l] []) Q E ⟨h, gs, d, t, os⟩ := sumK hh F N (isL hl) hi q
end
noncomputable abbrev lEnv (L : Addr) : Env := envX "law" s_law L 214 (.ref 213) (cellsFrom (L + 1) s_law.names [])
theorem CellsAre.seven {cm : Str → Option Value} {n1 n2 n3 n4 n5 n6 n7 : Str} {c1 c2 c3 c4 c5 c6 c7 : Addr} {cells : List (Addr × Obj)} (x : CellsAre cm [(n1, c1), (n2, c2), (n3, c3), (n4, c4), (n5, c5), (n6, c6), (n7, c7)] cells) :
    ∃ o1 o2 o3 o4 o5 o6 o7, cells = [(c1, o1), (c2, o2), (c3, o3), (c4, o4), (c5, o5), (c6, o6), (c7, o7)] ∧ o1.data = .cell (cm n1) ∧ o2.data = .cell (cm n2) ∧ o3.data = .cell (cm n3) ∧ o4.data = .cell (cm n4) ∧ o5.data = .cell (cm n5) ∧ o6.data = .cell (cm n6) ∧ o7.data = .cell (cm n7) := by
  cases x with | cons h x => cases x with | cons h' x => cases x with | cons h'' x => cases x with | cons h3 x =>
    obtain ⟨o5, o6, o7, rfl, a, b, c⟩ := CellsAre.three x
    exact ⟨_, _, _, _, _, _, _, rfl, h, h', h'', h3, a, b, c⟩
theorem law_cells (L : Addr) : cellsFrom (L + 1) s_law.names [] = [(("log" : Str), L+1+1+1+1+1+1+1), ("keys", L+1+1+1+1+1+1), ("n", L+1+1+1+1+1), ("m", L+1+1+1+1), ("head", L+1+1+1), ("sizes", L+1+1), ("told", L+1)] := by with_unfolding_all rfl
end Mine
end
-- F1
section
set_option profiler true
set_option profiler.threshold 150
namespace Mine
noncomputable def hts (height steps : Int) : Nat → Int
  | 0 => height
  | k + 1 => hts height steps k + steps / 4 ^ k % 4
noncomputable def keysOf (height steps : Int) (n : Nat) : List Int := (List.range n).map fun k => 37 * hts height steps (k + 1)
theorem keysOf_succ (height steps : Int) (n : Nat) : keysOf height steps (n + 1) = keysOf height steps n ++ [37 * hts height steps (n + 1)] := by
  simp [keysOf, List.range_succ]
theorem hts_le (height steps : Int) : ∀ k, height ≤ hts height steps k ∧ hts height steps k ≤ height + 3 * k
  | 0 => by simp [hts]
  | k + 1 => by have := hts_le height steps k; simp only [hts]; lia
theorem four_pow (i : Nat) (hi : i ≤ 9) : (1 : Int) ≤ 4 ^ i ∧ (4 : Int) ^ i ≤ 4 ^ 9 := by
  have h : ∀ k, k < 10 → (1 : Int) ≤ 4 ^ k ∧ (4 : Int) ^ k ≤ 4 ^ 9 := by decide
  exact h i (by lia)
theorem IntsAre.snoc {vs : List Value} {ns : List Int} (h : IntsAre vs ns) (n : Int) (t : Tok) : IntsAre (vs ++ [.int n t]) (ns ++ [n]) := by
  induction h with
  | nil => exact .cons n t .nil
  | cons k u _ ih => exact .cons k u ih
inductive KeysJ (gs : Array GenState) (kl : Addr) (height steps : Int) (t3 : Tok) (i : Nat) (m : Str → Option Value) : List (Addr × Obj) → Array GenState → Prop
  | mk (c : Nat) (vs : List Value) (tH : Tok) (hv : IntsAre vs (keysOf height steps i)) (m1 : m "keys" = some (.ref kl)) (m2 : m "height" = some (.int (hts height steps i) tH)) (m3 : m "steps" = some (.int steps t3)) : KeysJ gs kl height steps t3 i m [(kl, listOf vs.toArray c)] gs
section
variable {w : World} {A : Around} {E : Value → Shared → Prop} {K : Frag} {g : Heap} {mg mb : Str → Option Value} {Q : Value → Shared → Prop} {h : Heap} {gs : Array GenState} {d : Drawn} {t : Nat} {os : OsState}
theorem keys_spec (KF : FnK K 185 "_law_keys" "_law_keys" a_keys b_keys s_keys [] .none .none 184 .none) (nR : nsIn K mainGlobals "range" = some none) (G : Gd K mg mb g) (sub : Sub g h) (sz : g.objs.size ≤ h.objs.size)
    (am : Amb A 3) (height steps : Int) (h0 : 0 ≤ height) (h1 : height ≤ 3) (n : Nat) (hn : n ≤ 9) (t1 t2 t3 : Tok)
    (q : ∀ l h' t' vs c, Sub g h' → g.get? l = none → h.objs.size ≤ l → h'.get? l = some (listOf vs.toArray c) → IntsAre vs (keysOf height steps n) → Q (.ref l) ⟨h', gs, d, t', os⟩) :
    wpAny (model PW w) A (call (.ref 185) [.int height t1, .int n t2, .int steps t3] []) Q E ⟨h, gs, d, t, os⟩ := by
  refine call_fn am.room KF G sub sz (W := []) (by simp) (binds := [("height", .int height t1), ("size", .int n t2), ("steps", .int steps t3)]) (fun pm => BindsTo.of_eq (by kernel_rfl)) ?_
  intro L h₁ t₁ F N _ kp hL
  have F0 := Fr.lt F
  refine wpAny_execs_cons ?_
  wtm_at "go"
  with_reducible refine r_newList F N ?_
  intro kl h₂ F N l1 l2
  wtm_at "sts"
  intro h₃ F N
  wtm_at "go"
  with_reducible refine nm_B F G nR bb_range ?_
  wtm_at "go"
  with_reducible refine r_range1 F N ?_
  intro r h₄ t' u' v' F N lr tk
  with_reducible refine' r_iterRange n F N (N.get ?a) ?b ?c ?e ?_
  case a => exact .head _
  case b => lia
  case c => lia
  case e => lia
  intro it h₅ F N lit
  refine loop_for (Iter.range 0 n) (Amb.deeper (n := 2) am).hd (KeysJ gs kl height steps t3)
    (fun zz zz zz zz zz zz zz zz => trivial) ?_ ?_ ⟨0, [], t1, .nil, by with_unfolding_all rfl, by with_unfolding_all rfl, by with_unfolding_all rfl⟩ F (News.sub N ?_) ?_ rfl
  · intro i m news gs' h t o v hi zq9 zq10 _ F N hne
    obtain ⟨c, vs, tH, hv, m1, m2, m3⟩ := zq9
    obtain ⟨ti, rfl⟩ := zq10
    refine wpAny_pure ?_
    wtm_at "go"
    wtm_at "sts"
    intro h₆ F N
    wtm_at "go"
    have h4 : (1 : Int) ≤ 4 ^ (0 + (i : Int)).toNat ∧ (4 : Int) ^ (0 + (i : Int)).toNat ≤ 4 ^ 9 := by
      have e : (0 + (i : Int)).toNat = i := zt0
      rw [e]
      exact four_pow i (by lia)
    with_reducible refine r_pow ?_ ?_ ?_
    · lia
    · have : (Builtin.Int.intBits 4 : Int) = 3 := by decide +kernel
      rw [this]; lia
    with_reducible refine r_div ?_ ?_ ?_
    · lia
    · have : (4 : Int) ^ 9 = 262144 := by decide
      lia
    wtm_at "go"
    with_reducible refine r_mod ?_ ?_
    · decide
    wtm_at "go"
    wtm_at "sts"
    intro h₇ F N
    wtm_at "go"
    with_reducible refine r_listMeth (n1 N) PySem.F.slot_list_append PySem.F.type_list_append ?_
    wtm_at "go"
    with_reducible refine r_mul (mul_l ?_ ?_) ?_
    · decide
    · decide
    wtm_at "go"
    have hlen := IntsAre.length hv
    have hk := hne _ (.head _)
    have N2 : News g L h₇ [(kl, listOf vs.toArray c), (it, o)] := News.sub N (by simp)
    with_reducible refine r_append F N2 ?_ ?_ ?_
    · simpa using Ne.symm hk
    · rw [List.size_toArray, hlen, sizeLine_eq]; simp [keysOf]; lia
    intro h₈ F N hsz
    wtm_at "go"
    have e : (0 + (i : Int)).toNat = i := zt0
    rw [List.push_toArray] at N
    rw [e] at N F
    have N3 : News g L h₈ [(it, o), (kl, listOf (vs ++ [Value.int (37 * hts height steps (i + 1)) _]).toArray (c + 1))] := News.sub N fun p hp => (List.mem_cons.mp hp).elim (fun e => e ▸ .tail _ (.head _)) fun e => (List.mem_cons.mp e).elim (fun e => e ▸ .head _) fun e => nomatch e
    refine ⟨_, _, gs, h₈, _, F, N3, ?_, c + 1, _, _, ?_, m1, rfl, m3⟩
    · intro p hp
      rcases List.mem_cons.mp hp with rfl | hp
      · exact hk
      · cases hp
    · rw [keysOf_succ]; exact IntsAre.snoc hv _ _
  · intro m news gs' h t zq5 F N
    obtain ⟨c, vs, tH, hv, m1, m2, m3⟩ := zq5
    wtm_at "go"
    refine q kl h _ vs c F.keep (N _ (.head _)).2.2 ?_ (n0 N) hv
    exact Nat.le_trans hL (Nat.le_trans (Nat.le_of_lt F0) l2)
  · simp
  · intro p hp
    rcases List.mem_cons.mp hp with rfl | hp
    · exact Nat.ne_of_lt (lit _ (.tail _ (.head _)))
    · cases hp
end
end Mine
end
-- L1
section
namespace Mine
structure LawN (K : Frag) : Prop where
  nEnum : nsIn K mainGlobals "enumerate" = some none
  nSum : nsIn K mainGlobals "sum" = some none
  nLen : nsIn K mainGlobals "len" = some none
  nIsi : nsIn K mainGlobals "isinstance" = some none
  nTuple : nsIn K mainGlobals "tuple" = some none
  nRange : nsIn K mainGlobals "range" = some none
  nSorted : nsIn K mainGlobals "sorted" = some none
  nStr : nsIn K mainGlobals "str" = some none
  nMin : nsIn K mainGlobals "min" = some none
  nMax : nsIn K mainGlobals "max" = some none
  nSet : nsIn K mainGlobals "set" = some none
section
variable {w : World} {A : Around} {E : Value → Shared → Prop} {K : Frag} {mg mb : Str → Option Value} {h g : Heap} {gs : Array GenState} {d : Drawn} {t : Nat} {os : OsState} {L : Addr} {m : Str → Option Value}
set_option maxHeartbeats 2000000 in
theorem law0 (G : Gd K mg mb g) (am : Amb A 29) {W : List (Addr × Obj)} {o1 : Obj} (F : Fr g L h m) (N : News g L h ((L + 1, o1) :: W)) (hW : ∀ p ∈ W, p.1 ≠ L + 1) (e1 : o1.data = .cell none)
    {ls : Addr} {c : Nat} {vs : List Value} {ns : List Int} (m1 : m "script" = some (.ref ls)) (hls : g.get? ls = some (listOf vs.toArray c)) (hI : IntsAre vs ns) (hz : ns.length ≤ 63) {Q : Flow → Shared → Prop}
    (q : ∀ a o1' vs' c' ns' h' t' m', o1'.data = .cell (some (.ref a)) → Fr g L h' m' → (∀ x : Str, x ≠ "told" → m' x = m x) → News g L h' ((L + 1, o1') :: (a, listOf (List.toArray vs') c') :: W) → h.objs.size ≤ a → IntsAre vs' ns' → ns'.length ≤ 60 → (∀ n ∈ ns', 0 ≤ n ∧ n ≤ 999999) →
      wpAny (model PW w) A (execs (b_law.drop 1) (lEnv L)) Q E ⟨h', gs, d, t', os⟩) :
    wpAny (model PW w) A (execs b_law (lEnv L)) Q E ⟨h, gs, d, t, os⟩ := by
  have hlen := IntsAre.length hI
  refine wpAny_execs_cons ?_
  wtm_at "go2"
  with_reducible refine x_LC ?_
  wtm_at "go2"
  with_reducible refine x_Slice (part_none ?_)
  with_reducible refine part_some ?_
  wtm_at "go2"
  refine r_slice F N ?_
  intro sl h₂ F N lsl k2 zsl
  wtm_at "go2"
  refine r_sliceL F N (F.keep _ _ hls) (.head _) .none (.int _ _) (by rw [sizeLine_eq]; lia) ?_ (by with_unfolding_all rfl)
  intro r h₃ F N lr k3 _
  wtm_at "go2"
  have ep : slicePick vs.toArray none (some 60) none = ((slicePick vs.toArray none (some 60) none).toList).toArray := by simp
  have hV := kmk_upto (y := 60) hI (by decide)
  generalize hps : (slicePick vs.toArray none (some 60) none).toList = ps at hV
  rw [ep, hps] at N
  generalize hts : ns.take (60 : Int).toNat = ts at hV
  have hts60 : ts.length ≤ 60 := by rw [← hts, List.length_take]; exact Nat.min_le_left _ _
  have hpl := IntsAre.length hV
  with_reducible refine r_iterList F N (isL (n0 N)) ?_
  intro it h₄ F N lit k4
  have z4 : h.objs.size ≤ h₄.objs.size := Nat.le_trans (Nat.le_trans zsl (Nat.le_of_lt (lr (sl, _) (.head _)))) (Nat.le_of_lt (Nat.lt_trans (lit (r, _) (.head _)) (Heap.lt_size (n0 N))))
  have N := News.sub (l' := (it, listIt r 0) :: (r, listOf ps.toArray 0) :: (L + 1, o1) :: W) N (by wtm_at "prm")
  refine r_compForP (Iter.list r ps.toArray) am.hd F N (ne_cons (Nat.ne_of_lt (lit _ (.head _))) (ne_cons (Nat.ne_of_lt (lit (L + 1, o1) (.tail _ (.tail _ (.head _))))) fun p hp => Nat.ne_of_lt (lit p (.tail _ (.tail _ (.tail _ hp)))))) ⟨rfl, rfl⟩
    (fun i ys => IntsAre ys ((ts.take i).map (· % 1000000))) .nil ?_ ?_
  · intro g' acc D sg kN nsL hsz
    refine ⟨fun h' k => isL (k _ _ (kN _ (.head _))), ?_⟩
    intro i m ys c h t o v hi hY F N hai _ hv
    have hi' : i < ts.length := by simpa [hpl] using hi
    obtain ⟨u, hu⟩ := IntsAre.at_ hV hi'
    have hv : ps[i]? = some v := by simpa using hv
    rw [hu] at hv
    cases hv
    refine wpAny_pure ?_
    wtm_at "go2"
    wtm_at "sts"
    intro h₅ F N
    refine tests_nil ?_
    rw [if_pos rfl]
    refine r_emit rfl ?_
    wtm_at "go2"
    with_reducible refine r_mod (by decide) ?_
    have hyl := IntsAre.length hY
    refine papp F N hai (by rw [hyl, sizeLine_eq]; simp; lia) ?_
    have e : (ts.take (i + 1)).map (· % 1000000) = (ts.take i).map (· % 1000000) ++ [ts.getD i 0 % 1000000] := by
      rw [List.take_add_one, List.getElem?_eq_getElem hi', List.getD_eq_getElem?_getD, List.getElem?_eq_getElem hi']
      simp only [List.map_append, Option.toList_some, List.map_cons, List.map_nil, Option.getD_some]
    rw [e]
    exact IntsAre.snoc' hY _ _
  · intro acc ys c' h'' t'' hY F N hne hac
    wtm_at "go2"
    have N := News.sub (l' := (L + 1, o1) :: (acc, listOf ys.toArray c') :: W) N (by
      refine pm_cons (by wtm_at "mm") (pm_cons (by wtm_at "mm") ?_)
      exact pm_tail (pm_tail (pm_tail pm_id)))
    refine r_stC F N (ne_cons (Ne.symm (hne (L + 1, o1) (by wtm_at "mm"))) hW) e1 ?_
    intro h₉ o1' F N d1
    have hY2 : IntsAre ys (ts.map (· % 1000000)) := by
      have e : ts.take ps.toArray.size = ts := by rw [List.take_of_length_le]; simp [hpl]
      rw [e] at hY
      exact hY
    refine q acc o1' ys c' _ h₉ _ _ d1 F (fun zz zz => rfl) N ?_ hY2 (by simpa using hts60) ?_
    · exact Nat.le_trans z4 hac
    · intro n hn
      obtain ⟨a, -, rfl⟩ := List.mem_map.mp hn
      lia
end
end Mine
end
-- L2
section
namespace Mine
section
variable {w : World} {A : Around} {E : Value → Shared → Prop} {K : Frag} {mg mb : Str → Option Value} {h g : Heap} {gs : Array GenState} {d : Drawn} {t : Nat} {os : OsState} {L : Addr} {m : Str → Option Value}
set_option maxHeartbeats 2000000 in
theorem law1 (LN : LawN K) (G : Gd K mg mb g) (am : Amb A 29) {W : List (Addr × Obj)} {o1 : Obj} {a : Addr} {c : Nat} {vs : List Value} {ns : List Int} (F : Fr g L h m) (N : News g L h ((L + 1, o1) :: (a, listOf vs.toArray c) :: W)) (e1 : o1.data = .cell (some (.ref a)))
    (hI : IntsAre vs ns) (hz : ns.length ≤ 60) (hb : ∀ n ∈ ns, 0 ≤ n ∧ n ≤ 999999) {Q : Flow → Shared → Prop}
    (q : ∀ cl vs' c' ns' h' t' m', Fr g L h' m' → m' "cells" = some (.ref cl) → News g L h' ((cl, listOf (List.toArray vs') c') :: (L + 1, o1) :: (a, listOf vs.toArray c) :: W) → (∀ p ∈ (L + 1, o1) :: (a, listOf vs.toArray c) :: W, p.1 ≠ cl) → h.objs.size ≤ cl → IntsAre vs' ns' → ns'.length = 4 → (∀ n ∈ ns', 0 ≤ n ∧ n ≤ 70000000) →
      wpAny (model PW w) A (execs (b_law.drop 2) (lEnv L)) Q E ⟨h', gs, d, t', os⟩) :
    wpAny (model PW w) A (execs (b_law.drop 1) (lEnv L)) Q E ⟨h, gs, d, t, os⟩ := by
  have hlen := IntsAre.length hI
  refine wpAny_execs_cons ?_
  refine x_AssLC ?_
  wtm_at "go2"
  with_reducible refine nm_B F G LN.nEnum bb_enumerate ?_
  wtm_at "go2"
  with_reducible refine r_newListG F N ?_
  intro us kl h₂ hus F N l1 l2
  have hus2 : ∀ (i : Nat) (x : Value), us[i]? = some x → ∃ (b : Int) (u : Tok), x = Value.int b u ∧ 0 ≤ b ∧ b ≤ 34180 := by
    intro i x hx
    rw [hus] at hx
    have hm := List.mem_of_getElem? hx
    simp only [List.mem_cons, List.not_mem_nil, or_false] at hm
    rcases hm with rfl | rfl | rfl | rfl <;> exact ⟨_, _, rfl, by decide, by decide⟩
  have hul : us.length = 4 := by rw [hus]; rfl
  wtm_at "go2"
  refine r_enum F N (isL (n0 N)) ?_
  intro en it oi h₃ hIi F N lit lie z3 k3
  refine r_iterEnum (n0 N) ?_
  have hk0 : kl < it := lit (kl, _) (.head _)
  have hk1 : it < h₃.objs.size := Heap.lt_size (n1 N)
  refine r_compForE (items := us.toArray) am.hd F N (Nat.ne_of_lt lie) (fun p hp => Nat.ne_of_lt (Nat.lt_trans (lit p hp) lie)) (lt_ne lit) hIi (Nat.ne_of_lt (Nat.lt_trans hk0 lie)) (Nat.ne_of_lt hk0)
    (PlainJ gs fun i ys => ∃ ns', IntsAre ys ns' ∧ ns'.length = i ∧ (∀ n ∈ ns', 0 ≤ n ∧ n ≤ 70000000)) ⟨[], .nil, rfl, fun zz h => nomatch h⟩ ?_ ?_
  · intro g' acc D sg kN nsL hsz
    refine ⟨fun i m ys nw gs h' zz k zz => isL (k _ _ (kN _ (.head _))), ?_⟩
    intro i m ys c2 nw gs' h t oi x u hx zq12 F N hne hna _
    obtain ⟨ns', hY, hl', hb'⟩ := zq12
    obtain ⟨b0, ub, rfl, hb1, hb2⟩ := hus2 i x (by simpa using hx)
    have hi4 : i < 4 := by
      rw [← hul]
      rcases Nat.lt_or_ge i us.length with z | z
      · exact z
      · have hx' : us[i]? = some (.int b0 ub) := by simpa using hx
        rw [List.getElem?_eq_none z] at hx'; cases hx'
    wtm_at "sts"
    intro h₅ F N
    wtm_at "sts"
    intro h₆ F N
    refine tests_nil ?_
    rw [if_pos rfl]
    refine r_emit rfl ?_
    wtm_at "go2"
    with_reducible refine nm_B F (G.keeps sg) LN.nSum bb_sum ?_
    wtm_at "go2"
    have eo1 := F.keep _ _ (kN (L + 1, o1) (.tail _ (.head _)))
    refine nm_C eo1 e1 ?_
    wtm_at "go2"
    with_reducible refine x_Slice3 (part_some ?_)
    wtm_at "go2"
    with_reducible refine part_none ?_
    with_reducible refine part_some ?_
    wtm_at "go2"
    refine r_slice3 F N ?_
    intro sl h₇ F N lsl k7 _
    wtm_at "go2"
    have ea := F.keep _ _ (kN (a, _) (.tail _ (.tail _ (.head _))))
    refine r_sliceL3 F N ea (.head _) (.int _ _) .none (.int _ _) (by decide) (by rw [sizeLine_eq]; lia) ?_ (by with_unfolding_all rfl)
    intro r h₈ F N lr k8 _
    wtm_at "go2"
    obtain ⟨np, hV, hnp, hnl⟩ := ints_pick hI (some (i : Int)) none (some 4)
    have ep : slicePick vs.toArray (some (i : Int)) none (some 4) = ((slicePick vs.toArray (some (i : Int)) none (some 4)).toList).toArray := by simp
    rw [ep] at N
    refine r_sum am.hd F N (n0 N) hV ?_
    intro h₉ tk t' F N
    wtm_at "go2"
    have hsum := sum_leB (b := 999999) (ns := np) fun n hn => hb n (hnp n hn)
    have hyl := IntsAre.length hY
    have N2 := News.sub (l' := (acc, listOf ys.toArray c2) :: (en, enO it (i + 1 : Nat) (.int b0 ub)) :: (it, oi) :: []) N (by wtm_at "prm")
    with_reducible refine r_append F N2 ?_ ?_ ?_
    · exact ne_cons (Ne.symm (hne _ (.head _))) (ne_cons (hna _ (.head _)) ne_nil)
    · rw [List.size_toArray, hyl, sizeLine_eq]; lia
    intro hA F N hsz
    rw [List.push_toArray] at N
    refine cnext F (News.swap N) (ne_cons (p := (acc, _)) (hne (acc, listOf ys.toArray c2) (.head _)) (ne_cons (hne _ (.tail _ (.head _))) ne_nil)) (ne_cons (hna _ (.head _)) ne_nil) ⟨[], _, ne_nil, ns' ++ [b0 + np.sum], IntsAre.snoc' hY _ _, by simp [hl'], ?_⟩
    intro n hn
    rcases List.mem_append.mp hn with hn | hn
    · exact hb' n hn
    · rw [List.mem_singleton.mp hn]
      constructor <;> lia
  · intro acc ys c2 nw h'' gs' t'' m' zq8 F N hne hap hac
    obtain ⟨ns', hY, hl', hb'⟩ := zq8
    have hl4 : ns'.length = 4 := by rw [hl']; simpa using hul
    refine q acc ys c2 ns' h'' _ _ F (by with_unfolding_all rfl) (News.sub N (pm_cons (.head _) (pm_tail (pm_tail pm_id)))) (fun p hp => hne p (.tail _ hp)) ?_ hY hl4 hb'
    have := Heap.lt_size (n0 N)
    exact Nat.le_trans (Nat.le_trans l2 (Nat.le_trans (Nat.le_of_lt hk0) (Nat.le_trans (Nat.le_of_lt (Nat.lt_of_le_of_lt (Nat.le_refl _) hk1)) (Nat.le_refl _)))) hac
end
end Mine
end
-- B35
section
open PyProof.V PySem.Spec PySem.SeqAt
namespace Mine
noncomputable def Rd (h : Heap) (k : Nat) (v : Value) (d : PyData) : Prop := (∃ as, Reads h v d as) ∧ d.canLay0 = true ∧ d.depth ≤ k
noncomputable def Rds (h : Heap) (k : Nat) (vs : List Value) (ds : List PyData) : Prop := (∃ as, ReadsAll h vs ds as) ∧ PyData.canLayAll0 ds = true ∧ PyData.depthAll ds ≤ k
theorem Rd.mono {h : Heap} {k k' : Nat} {v : Value} {d : PyData} (x : Rd h k v d) (hk : k ≤ k') : Rd h k' v d := ⟨x.1, x.2.1, Nat.le_trans x.2.2 hk⟩
theorem Rd.int {h : Heap} (i : Int) (t : Tok) : Rd h 1 (.int i t) (.int i) := ⟨⟨_, .int i t⟩, by simp [PyData.canLay0], by simp [PyData.depth]⟩
theorem Rd.none {h : Heap} : Rd h 1 .none .none := ⟨⟨_, .none⟩, by simp [PyData.canLay0], by simp [PyData.depth]⟩
theorem Rd.str {h : Heap} {x : Str} (t : Tok) (hx : PyData.strOk x = true) : Rd h 1 (.str x t) (.str x) := ⟨⟨_, .str x t⟩, by simpa [PyData.canLay0] using hx, by simp [PyData.depth]⟩
theorem Rds.nil {h : Heap} {k : Nat} : Rds h k [] [] := ⟨⟨_, .nil⟩, by simp [PyData.canLayAll0], by simp [PyData.depthAll]⟩
theorem Rds.cons {h : Heap} {k : Nat} {v : Value} {d : PyData} {vs : List Value} {ds : List PyData} (x : Rd h k v d) (y : Rds h k vs ds) : Rds h k (v :: vs) (d :: ds) := by
  obtain ⟨⟨as, r⟩, c, p⟩ := x
  obtain ⟨⟨bs, s⟩, c', p'⟩ := y
  exact ⟨⟨_, .cons r s⟩, by simp [PyData.canLayAll0, c, c'], by simp only [PyData.depthAll]; lia⟩
theorem Rds.append {h : Heap} {k : Nat} {vs us : List Value} {ds es : List PyData} (x : Rds h k vs ds) (y : Rds h k us es) : Rds h k (vs ++ us) (ds ++ es) := by
  obtain ⟨⟨as, r⟩, c, p⟩ := x
  induction ds generalizing vs as with
  | nil => cases r; exact y
  | cons d ds ih =>
    cases r with
    | cons r1 r2 =>
      simp only [PyData.canLayAll0, Bool.and_eq_true] at c
      simp only [PyData.depthAll] at p
      exact Rds.cons ⟨⟨_, r1⟩, c.1, by lia⟩ (ih _ r2 c.2 (by lia))
theorem Rd.list {h : Heap} {k : Nat} {a : Addr} {vs : List Value} {ds : List PyData} {c : Nat} (e : h.get? a = some (listOf vs.toArray c)) (x : Rds h k vs ds) : Rd h (k + 1) (.ref a) (.list ds) := by
  obtain ⟨⟨as, r⟩, cl, p⟩ := x
  exact ⟨⟨_, Reads.list e rfl rfl (by simpa using r)⟩, by simpa only [PyData.canLay0] using cl, by simp only [PyData.depth]; lia⟩
theorem Rd.tuple {h : Heap} {k : Nat} {a : Addr} {vs : List Value} {ds : List PyData} (e : h.get? a = some (tupO vs)) (x : Rds h k vs ds) : Rd h (k + 1) (.ref a) (.tuple ds) := by
  obtain ⟨⟨as, r⟩, cl, p⟩ := x
  exact ⟨⟨_, Reads.tuple e rfl rfl (by simpa using r)⟩, by simpa only [PyData.canLay0] using cl, by simp only [PyData.depth]; lia⟩
theorem Rds.ints {h : Heap} {vs : List Value} {ns : List Int} (x : IntsAre vs ns) : Rds h 1 vs (ns.map PyData.int) := by
  induction x with
  | nil => exact .nil
  | cons k t _ ih => exact Rds.cons (.int k t) ih
theorem Rds.pcs {h : Heap} {O : Addr → Obj → Prop} {vs : List Value} {ps : List (Str × Str)} (k : ∀ a o, O a o → h.get? a = some o) (hs : ∀ p ∈ ps, PyData.strOk p.1 = true ∧ PyData.strOk p.2 = true) (x : Pcs O vs ps) : Rds h 2 vs (ps.map fun p => .tuple [.str p.1, .str p.2]) := by
  induction x with
  | nil => exact .nil
  | cons a x y t u ho _ ih =>
    have hp := hs _ (.head _)
    exact Rds.cons (Rd.tuple (k _ _ ho) (Rds.cons (.str t hp.1) (Rds.cons (.str u hp.2) .nil))) (ih fun p hp => hs p (.tail _ hp))
section
variable {prog : Program} {w : World} {A : Around} {E : Value → Shared → Prop} {h : Heap} {gs : Array GenState} {d : Drawn} {t : Nat} {os : OsState} {Q : Value → Shared → Prop} {k k' : Nat} {a b : Value} {da : PyData}
theorem Rd.shaped {h : Heap} {k : Nat} {v : Value} {d : PyData} (x : Rd h k v d) (hk : k ≤ 64) : shaped d = true := by
  show (d.canLay0 && decide (d.depth ≤ 64)) = true
  rw [Bool.and_eq_true]
  exact ⟨x.2.1, decide_eq_true (Nat.le_trans x.2.2 hk)⟩
theorem r_neSame (x : Rd h k a da) (y : Rd h k' b da) (hk : k ≤ 64) (hu : A.units + 64 < cLine) (q : Q (.bool false) ⟨h, gs, d, t, os⟩) : wpAny (model prog w) A (compareOp .NotEq a b) Q E ⟨h, gs, d, t, os⟩ := by
  obtain ⟨as, r⟩ := x.1
  obtain ⟨bs, r'⟩ := y.1
  exact ne_dataH r r' (x.shaped hk) (x.shaped hk) hu (by rw [PySem.SeqAt.eqv_refl _ x.2.1]; exact q)
theorem r_eqSame (x : Rd h k a da) (y : Rd h k' b da) (hk : k ≤ 64) (hu : A.units + 64 < cLine) (q : Q (.bool true) ⟨h, gs, d, t, os⟩) : wpAny (model prog w) A (compareOp .Eq a b) Q E ⟨h, gs, d, t, os⟩ := by
  obtain ⟨as, r⟩ := x.1
  obtain ⟨bs, r'⟩ := y.1
  exact eq_dataH r r' (x.shaped hk) (x.shaped hk) hu (by rw [PySem.SeqAt.eqv_refl _ x.2.1]; exact q)
end
end Mine
end
-- L3
section
namespace Mine
structure LawF (K : Frag) : Prop where
  keys : FnK K 185 "_law_keys" "_law_keys" a_keys b_keys s_keys [] .none .none 184 .none
  nKeys : nsIn K mainGlobals "_law_keys" = some (some (.ref 185))
  read : ReadK K
  nRead : nsIn K mainGlobals "_law_read" = some (some (.ref 173))
  marks : FnK K 178 "_law_marks" "_law_marks" a_marks b_marks s_marks [] .none .none 177 .none
  nMarks : nsIn K mainGlobals "_law_marks" = some (some (.ref 178))
  flg : FlgK K
  nInfo : nsIn K mainGlobals "_get_name_info" = some (some (.ref 59))
  nUnk : nsIn K mainGlobals "UNKNOWN" = some (some (.ref 52))
  pieces : FnK K 190 "_law_pieces" "_law_pieces" a_pieces b_pieces s_pieces [] .none .none 189 .none
  nPieces : nsIn K mainGlobals "_law_pieces" = some (some (.ref 190))
  pile : FnK K 197 "_law_pile" "_law_pile" a_pile b_pile s_pile [] .none .none 196 .none
  nPile : nsIn K mainGlobals "_law_pile" = some (some (.ref 197))
  nAcc : nsIn K mainGlobals "_Accumulator" = some (some (.ref 164))
  tkn : TknK K
  nTaken : nsIn K mainGlobals "_law_taken" = some (some (.ref 209))
  len : LenK K
theorem keysOf_in (height steps : Int) (n : Nat) (h0 : 0 ≤ height) (h3 : height ≤ 3) (hn : n ≤ 9) : ∀ x ∈ keysOf height steps n, 0 ≤ x ∧ x ≤ 1110 := by
  intro x hx
  obtain ⟨k, hk, rfl⟩ := List.mem_map.mp hx
  have := List.mem_range.mp hk
  have := hts_le height steps (k + 1)
  lia
theorem keysOf_len (height steps : Int) (n : Nat) : (keysOf height steps n).length = n := by simp [keysOf]
theorem four_of {vs : List Value} {ns : List Int} (h : IntsAre vs ns) (hl : ns.length = 4) : ∃ c0 c1 c2 c3 u0 u1 u2 u3, vs = [.int c0 u0, .int c1 u1, .int c2 u2, .int c3 u3] ∧ ns = [c0, c1, c2, c3] := by
  rcases ns with _ | ⟨c0, _ | ⟨c1, _ | ⟨c2, _ | ⟨c3, _ | ⟨c4, r⟩⟩⟩⟩⟩ <;> simp at hl
  cases h with | cons _ u0 h => cases h with | cons _ u1 h => cases h with | cons _ u2 h => cases h with | cons _ u3 h => cases h with | nil => exact ⟨_, _, _, _, u0, u1, u2, u3, rfl, rfl⟩
section
variable {w : World} {A : Around} {E : Value → Shared → Prop} {K : Frag} {mg mb : Str → Option Value} {h g : Heap} {gs : Array GenState} {d : Drawn} {t : Nat} {os : OsState} {L : Addr} {m : Str → Option Value}
set_option maxHeartbeats 2000000 in
theorem law2 (LN : LawN K) (LF : LawF K) (G : Gd K mg mb g) (am : Amb A 29) {W : List (Addr × Obj)} {o2 : Obj} {cl : Addr} {c : Nat} {vs : List Value} {ns : List Int} (F : Fr g L h m) (m1 : m "cells" = some (.ref cl)) (N : News g L h ((L + 1 + 1, o2) :: (cl, listOf vs.toArray c) :: W)) (hne : ∀ p ∈ (cl, listOf vs.toArray c) :: W, p.1 ≠ L + 1 + 1) (e1 : o2.data = .cell none)
    (hI : IntsAre vs ns) (hz : ns.length = 4) (hb : ∀ n ∈ ns, 0 ≤ n ∧ n ≤ 70000000) {Q : Flow → Shared → Prop}
    (q : ∀ o2' sl s0 s1 u0 u1 c0 c1 c2 c3 v0 v1 v2 v3 bl k0 k1 vk0 vk1 cb ck0 ck1 h' t' m', o2'.data = .cell (some (.ref sl)) → Fr g L h' m' → m' "cells" = some (.ref cl) → m' "both" = some (.ref bl) →
      News g L h' ((bl, listOf [Value.ref k0, .ref k1].toArray cb) :: (k0, listOf (List.toArray vk0) ck0) :: (k1, listOf (List.toArray vk1) ck1) :: (sl, listOf [Value.int ((s0 : Nat) : Int) u0, .int ((s1 : Nat) : Int) u1].toArray 0) :: (L + 1 + 1, o2') :: (cl, listOf [Value.int c0 v0, .int c1 v1, .int c2 v2, .int c3 v3].toArray c) :: W) →
      (∀ a ∈ [bl, k0, k1, sl], h.objs.size ≤ a) → 1 ≤ s0 → s0 ≤ 9 → 1 ≤ s1 → s1 ≤ 9 → 0 ≤ c3 → c3 ≤ 70000000 → IntsAre vk0 (keysOf 0 c1 s0) → IntsAre vk1 (keysOf (c0 / 81 % 4) c2 s1) → 
      wpAny (model PW w) A (execs (b_law.drop 4) (lEnv L)) Q E ⟨h', gs, d, t', os⟩) :
    wpAny (model PW w) A (execs (b_law.drop 2) (lEnv L)) Q E ⟨h, gs, d, t, os⟩ := by
  obtain ⟨c0, c1, c2, c3, v0, v1, v2, v3, rfl, rfl⟩ := four_of hI hz
  have hc0 := hb c0 (by simp)
  have hc3 := hb c3 (by simp)
  refine wpAny_execs_cons ?_
  wtm_at "go2"
  with_reducible refine r_subL (n1 N) (x := .int c0 v0) (by decide) (by decide) rfl ?_
  wtm_at "go2"
  with_reducible refine r_mod ?_ ?_
  · decide
  wtm_at "go2"
  with_reducible refine r_subL (n1 N) (x := .int c0 v0) (by decide) (by decide) rfl ?_
  wtm_at "go2"
  with_reducible refine r_div ?_ ?_ ?_
  · decide
  · decide
  wtm_at "go2"
  with_reducible refine r_mod ?_ ?_
  · decide
  wtm_at "go2"
  obtain ⟨s0, hs0⟩ : ∃ s : Nat, 1 + c0 % 9 = s := ⟨(1 + c0 % 9).toNat, (Int.toNat_of_nonneg (Int.add_nonneg (by decide) (Int.emod_nonneg _ (by decide)))).symm⟩
  obtain ⟨s1, hs1⟩ : ∃ s : Nat, 1 + c0 / 9 % 9 = s := ⟨(1 + c0 / 9 % 9).toNat, (Int.toNat_of_nonneg (Int.add_nonneg (by decide) (Int.emod_nonneg _ (by decide)))).symm⟩
  rw [hs0, hs1]
  have a0 : 1 ≤ s0 := by lia
  have a1 : s0 ≤ 9 := by lia
  have a2 : 1 ≤ s1 := by lia
  have a3 : s1 ≤ 9 := by lia
  clear hs0 hs1
  with_reducible refine r_newList F N ?_
  intro sl h₂ F N l1 l2
  have N := News.sub (l' := (L + 1 + 1, o2) :: (sl, _) :: (cl, listOf [Value.int c0 v0, .int c1 v1, .int c2 v2, .int c3 v3].toArray c) :: W) N (pm_cons (.tail _ (.head _)) (pm_cons (.head _) (pm_tail (pm_tail pm_id))))
  have hsl : sl ≠ L + 1 + 1 := Nat.ne_of_gt (l1 (L + 1 + 1, o2) (.head _))
  refine r_stC F N (ne_cons hsl hne) e1 ?_
  intro h₃ o2' F N d2
  wtm_at "go2"
  with_reducible refine nm_K F G LF.nKeys ?_
  wtm_at "go2"
  refine nm_C (n0 N) d2 ?_
  wtm_at "go2"
  with_reducible refine r_subL (n1 N) (x := .int s0 _) (by decide) (by decide) rfl ?_
  wtm_at "go2"
  with_reducible refine r_subL (n2 N) (x := .int c1 v1) (by decide) (by decide) rfl ?_
  wtm_at "go2"
  have z3 : sl < h₃.objs.size := Heap.lt_size (n1 N)
  refine ⟨Kp.fnK LF.keys (G.X.keeps F.keep), ?_⟩
  refine keys_spec LF.keys LN.nRange (G.keeps F.keep) (fun zz zz e => e) (Nat.le_refl _) (am.mono (by decide)) 0 c1 (by decide) (by decide) s0 a1 _ _ _ ?_
  intro k0 h₄ t4 vk0 ck0 k4 _ hk0 e0 hI0
  have N := News.cons (News.keep N k4) e0 (Nat.ne_of_gt (Nat.lt_of_lt_of_le (Fr.lt F) hk0)) (none_of_size (Nat.le_trans (Fr.szle F) hk0))
  have F := Fr.sub F k4
  wtm_at "go2"
  with_reducible refine nm_K F G LF.nKeys ?_
  wtm_at "go2"
  with_reducible refine r_subL (n3 N) (x := .int c0 v0) (by decide) (by decide) rfl ?_
  wtm_at "go2"
  with_reducible refine r_div ?_ ?_ ?_
  · decide
  · decide
  wtm_at "go2"
  with_reducible refine r_mod ?_ ?_
  · decide
  wtm_at "go2"
  refine nm_C (n1 N) d2 ?_
  wtm_at "go2"
  with_reducible refine r_subL (n2 N) (x := .int s1 _) (by decide) (by decide) rfl ?_
  wtm_at "go2"
  with_reducible refine r_subL (n3 N) (x := .int c2 v2) (by decide) (by decide) rfl ?_
  wtm_at "go2"
  refine ⟨Kp.fnK LF.keys (G.X.keeps F.keep), ?_⟩
  refine keys_spec LF.keys LN.nRange (G.keeps F.keep) (fun zz zz e => e) (Nat.le_refl _) (am.mono (by decide)) (c0 / 81 % 4) c2 (by lia) (by lia) s1 a3 _ _ _ ?_
  intro k1 h₅ t5 vk1 ck1 k5 _ hk1 e1' hI1
  have lk0 : k0 < k1 := Nat.lt_of_lt_of_le (Heap.lt_size (n0 N)) hk1
  have N := News.cons (News.keep N k5) e1' (Nat.ne_of_gt (Nat.lt_of_lt_of_le (Fr.lt F) hk1)) (none_of_size (Nat.le_trans (Fr.szle F) hk1))
  have F := Fr.sub F k5
  wtm_at "go2"
  with_reducible refine r_newList F N ?_
  intro bl h₆ F N l3 l4
  wtm_at "go2"
  wtm_at "sts"
  intro h₇ F N
  have b0 : h.objs.size ≤ k0 := Nat.le_trans l2 (Nat.le_trans (Nat.le_of_lt z3) hk0)
  have b1 : h.objs.size ≤ k1 := Nat.le_trans b0 (Nat.le_of_lt lk0)
  have b2 : h.objs.size ≤ bl := Nat.le_trans b1 (Nat.le_of_lt (l3 (k1, _) (.head _)))
  refine q o2' sl s0 s1 _ _ c0 c1 c2 c3 v0 v1 v2 v3 bl k0 k1 vk0 vk1 0 ck0 ck1 h₇ _ _ d2 F (by wtm_at "ml") (by with_unfolding_all rfl)
    (News.sub N (pm_cons (by wtm_at "mm") (pm_cons (by wtm_at "mm") (pm_cons (by wtm_at "mm") (pm_cons (by wtm_at "mm") (pm_cons (by wtm_at "mm") (pm_tail (pm_tail (pm_tail (pm_tail (pm_tail pm_id)))))))))))
    ?_ a0 a1 a2 a3 hc3.1 hc3.2 hI0 hI1
  exact fa_cons (b2) (fa_cons (b0) (fa_cons (b1) (fa_cons (l2) fa_nil)))
end
end Mine
end
-- L4
section
namespace Mine
theorem ints_app {vs us : List Value} {ns ms : List Int} (h : IntsAre vs ns) (h' : IntsAre us ms) : IntsAre (vs ++ us) (ns ++ ms) := by
  induction h with
  | nil => exact h'
  | cons k t _ ih => exact .cons k t ih
section
variable {w : World} {A : Around} {E : Value → Shared → Prop} {K : Frag} {mg mb : Str → Option Value} {h g : Heap} {gs : Array GenState} {d : Drawn} {t : Nat} {os : OsState} {L : Addr} {m : Str → Option Value}
set_option maxHeartbeats 2000000 in
theorem law4 (LN : LawN K) (LF : LawF K) (G : Gd K mg mb g) (am : Amb A 29) (hfr : A.frames = some [lEnv L]) {W : List (Addr × Obj)} {bl k0 k1 : Addr} {cb ck0 ck1 : Nat} {vk0 vk1 : List Value} {s0 s1 : Nat} {c1 c2 ht : Int}
    (F : Fr g L h m) (m1 : m "both" = some (.ref bl)) (N : News g L h ((bl, listOf [Value.ref k0, .ref k1].toArray cb) :: (k0, listOf (List.toArray vk0) ck0) :: (k1, listOf (List.toArray vk1) ck1) :: W))
    (a0 : 1 ≤ s0) (a1 : s0 ≤ 9) (a2 : 1 ≤ s1) (a3 : s1 ≤ 9) (hh0 : 0 ≤ ht) (hh3 : ht ≤ 3) (hI0 : IntsAre vk0 (keysOf 0 c1 s0)) (hI1 : IntsAre vk1 (keysOf ht c2 s1)) {Q : Flow → Shared → Prop}
    (q : ∀ x rl vr cr h' t' m', Fr g L h' m' → (∀ y : Str, y ≠ "read" → y ≠ "numbers" → m' y = m y) → m' "read" = some (.ref rl) → News g L h' ((rl, listOf (List.toArray vr) cr) :: W) → h.objs.size ≤ rl → IntsAre vr (keysOf 0 c1 s0 ++ keysOf ht c2 s1 ++ [x]) →
      wpAny (model PW w) A (execs (b_law.drop 7) (lEnv L)) Q E ⟨h', gs, d, t', os⟩) :
    wpAny (model PW w) A (execs (b_law.drop 4) (lEnv L)) Q E ⟨h, gs, d, t, os⟩ := by
  have hl0 := IntsAre.length hI0
  have hl1 := IntsAre.length hI1
  rw [keysOf_len] at hl0 hl1
  refine wpAny_execs_cons ?_
  wtm_at "go2"
  have ebl := n0 N
  with_reducible refine r_subL (n0 N) (x := .ref k0) (by decide) (by decide) rfl ?_
  wtm_at "go2"
  with_reducible refine r_subL (n0 N) (x := .ref k1) (by decide) (by decide) rfl ?_
  wtm_at "go2"
  refine r_addL F N (n1 N) (n2 N) (by rw [sizeLine_eq]; lia) ?_
  intro r1 h₂ F N l1 _ z1
  wtm_at "go2"
  with_reducible refine nm_B F G LN.nSum bb_sum ?_
  wtm_at "go2"
  with_reducible refine r_subL (n1 N) (x := .ref k0) (by decide) (by decide) rfl ?_
  wtm_at "go2"
  with_reducible refine r_subL (n1 N) (x := .ref k1) (by decide) (by decide) rfl ?_
  wtm_at "go2"
  refine r_addL F N (n2 N) (n3 N) (by rw [sizeLine_eq]; lia) ?_
  intro r2 h₃ F N l2 _ z2
  wtm_at "go2"
  have hK := ints_app hI0 hI1
  refine r_sum am.hd F N (n0 N) hK ?_
  intro h₄ t4 t4' F N
  wtm_at "go2"
  with_reducible refine r_mul (mul_l ?_ ?_) ?_
  · decide
  · decide
  wtm_at "go2"
  with_reducible refine r_newList F N ?_
  intro r3 h₅ F N l3 z3
  wtm_at "go2"
  refine r_addL F N (n2 N) (n0 N) (by rw [sizeLine_eq]; simp; lia) ?_
  intro nl h₆ F N l4 _ z4
  wtm_at "go2"
  wtm_at "sts"
  intro h₇ F N
  wtm_at "go2"
  have z7 := Heap.lt_size (n3 N)
  with_reducible refine nm_K F G LF.nRead ?_
  wtm_at "go2"
  refine ⟨Kp.fnK LF.read.fn (G.X.keeps F.keep), ?_⟩
  have hKb : ∀ x ∈ keysOf 0 c1 s0 ++ keysOf ht c2 s1, 0 ≤ x ∧ x ≤ 1110 := by
    intro x hx
    rcases List.mem_append.mp hx with hx | hx
    · exact keysOf_in 0 c1 s0 (by decide) (by decide) a1 x hx
    · exact keysOf_in ht c2 s1 hh0 hh3 a3 x hx
  have hsum := sum_leB hKb
  have hKl : (keysOf 0 c1 s0 ++ keysOf ht c2 s1).length = s0 + s1 := by rw [List.length_append, keysOf_len, keysOf_len]
  rw [hKl] at hsum
  have hNI := ints_app hK (IntsAre.cons (64 * (keysOf 0 c1 s0 ++ keysOf ht c2 s1).sum) t4 .nil)
  have gL : g.get? L = none := none_of_size F.above
  have sgL : Sub g (h₇.hide L) := subHideR F.keep gL
  obtain ⟨oL, es, ep, eL, dL, rL⟩ := F.ns
  have hnl : nl ≠ L := (N _ (.head _)).2.1
  refine read_spec LF.read (G.keeps sgL) (fun b o e => Heap.of_hide e) (Nat.le_of_eq (Heap.hide_size h₇ L)) (am.mono (by decide)) hfr (by with_unfolding_all rfl) (fun e => by have e2 : (lEnv L).scope.kind = .function := by { with_unfolding_all rfl }; rw [e2] at e; cases e) eL (by intro vs e; rw [dL] at e; cases e) (Heap.hide_self h₇ L) ((Heap.hide_ne h₇ hnl).trans (n0 N)) hNI ?_ ?_ ?_
  · intro n hn
    rcases List.mem_append.mp hn with hn | hn
    · have := hKb n hn; lia
    · rw [List.mem_singleton.mp hn]; lia
  · rw [List.length_append, hKl]; simp; lia
  intro rl h₈ t8 vr cr sl k8 eL8 z8 erl hIr
  have F : Fr g L h₈ _ := ⟨⟨{ oL with slots := sl }, es, ep, eL8, dL, rL⟩, fun b o e => k8 b o (sgL b o e), F.above⟩
  have N := fun p hp => (⟨k8 _ _ ((Heap.hide_ne h₇ (N p hp).2.1).trans (N p hp).1), (N p hp).2⟩ : h₈.get? p.1 = some p.2 ∧ p.1 ≠ L ∧ g.get? p.1 = none)
  have N : News g L h₈ _ := N
  have N := News.cons N erl (Nat.ne_of_gt (Nat.lt_of_lt_of_le (Heap.lt_size eL) z8)) (none_of_size (Nat.le_trans (Nat.le_of_lt (Nat.lt_of_le_of_lt F.above (Heap.lt_size eL))) z8))
  wtm_at "sts"
  intro h₉ F N
  wtm_at "go2"
  refine r_neSame (Rd.list (n0 N) (Rds.ints hIr)) (Rd.list (n1 N) (Rds.ints hNI)) (by decide) (by have := am.un; lia) ?_
  refine wpAny_truthy_bool ?_
  rw [if_neg (by decide)]
  refine wpAny_execs_nil ?_
  show wpAny _ _ (execs (b_law.drop 7) (lEnv L)) _ _ _
  have zz : h.objs.size ≤ rl := Nat.le_trans (Nat.le_trans z1 (Nat.le_of_lt z7)) z8
  refine q _ rl vr cr h₉ _ _ F ?_ (by with_unfolding_all rfl) (News.sub N (pm_cons (.head _) (pm_tail (pm_tail (pm_tail (pm_tail (pm_tail (pm_tail (pm_tail (pm_tail pm_id)))))))))) zz hIr
  intro y h1 h2
  show (if y = Str.ofString "read" then some (Value.ref rl) else if y = Str.ofString "numbers" then some (Value.ref nl) else m y) = m y
  rw [if_neg h1, if_neg h2]
end
end Mine
end
-- L5
section
namespace Mine
noncomputable abbrev cH (L : Addr) : Addr := L + 1 + 1 + 1
noncomputable abbrev cM (L : Addr) : Addr := L + 1 + 1 + 1 + 1
noncomputable abbrev cN (L : Addr) : Addr := L + 1 + 1 + 1 + 1 + 1
noncomputable abbrev cK (L : Addr) : Addr := L + 1 + 1 + 1 + 1 + 1 + 1
noncomputable abbrev cL (L : Addr) : Addr := L + 1 + 1 + 1 + 1 + 1 + 1 + 1
theorem cHK (L : Addr) : cH L ≠ cK L := Nat.ne_of_lt (Nat.lt_succ_of_lt (Nat.lt_succ_of_lt (Nat.lt_succ_self _)))
theorem cHL (L : Addr) : cH L ≠ cL L := Nat.ne_of_lt (Nat.lt_succ_of_lt (Nat.lt_succ_of_lt (Nat.lt_succ_of_lt (Nat.lt_succ_self _))))
theorem cKL (L : Addr) : cK L ≠ cL L := Nat.ne_of_lt (Nat.lt_succ_self _)
theorem na {g h : Heap} {L a : Addr} {o : Obj} {l : List (Addr × Obj)} (N : News g L h l) (e : (a, o) ∈ l) : h.get? a = some o := (N _ e).1
section
variable {w : World} {A : Around} {E : Value → Shared → Prop} {K : Frag} {mg mb : Str → Option Value} {h g : Heap} {gs : Array GenState} {d : Drawn} {t : Nat} {os : OsState} {L : Addr} {m : Str → Option Value}
set_option maxHeartbeats 2000000 in
theorem law7 (LN : LawN K) (LF : LawF K) (G : Gd K mg mb g) (am : Amb A 29) {W : List (Addr × Obj)} {rl sl cl : Addr} {cr cs cc s0 s1 : Nat} {vr : List Value} {x c0 c1 c2 c3 : Int} {K0 K1 : List Int} {u0 u1 v0 v1 v2 v3 : Tok} {o2 o3 o6 o7 : Obj}
    (F : Fr g L h m) (m1 : m "read" = some (.ref rl)) (m2 : m "cells" = some (.ref cl))
    (N : News g L h ((cL L, o7) :: (cK L, o6) :: (cH L, o3) :: (rl, listOf (List.toArray vr) cr) :: (sl, listOf [Value.int (s0 : Nat) u0, .int (s1 : Nat) u1].toArray cs) :: (L + 1 + 1, o2) :: (cl, listOf [Value.int c0 v0, .int c1 v1, .int c2 v2, .int c3 v3].toArray cc) :: W))
    (hne : ∀ c ∈ [cL L, cK L, cH L], ∀ p ∈ (rl, listOf (List.toArray vr) cr) :: (sl, listOf [Value.int (s0 : Nat) u0, .int (s1 : Nat) u1].toArray cs) :: (L + 1 + 1, o2) :: (cl, listOf [Value.int c0 v0, .int c1 v1, .int c2 v2, .int c3 v3].toArray cc) :: W, p.1 ≠ c)
    (e7 : o7.data = .cell none) (e6 : o6.data = .cell none) (e3 : o3.data = .cell none) (e2 : o2.data = .cell (some (.ref sl)))
    (hI : IntsAre vr (K0 ++ K1 ++ [x])) (hk0 : K0.length = s0) (hk1 : K1.length = s1) (a1 : s0 ≤ 9) (a3 : s1 ≤ 9) (b0 : 0 ≤ c3) (b1 : c3 ≤ 70000000) {Q : Flow → Shared → Prop}
    (q : ∀ o7' o6' o3' lg ml kl r0 r1 vm cm vk0 ck0 vk1 ck1 base head ub uh h' t' m', Fr g L h' m' → m' "base" = some (.int (base : Nat) ub) → m' "marks" = some (.ref ml) → 
      News g L h' ((lg, listOf [].toArray 0) :: (ml, listOf (List.toArray vm) cm) :: (kl, listOf [Value.ref r0, .ref r1].toArray 0) :: (r0, listOf (List.toArray vk0) ck0) :: (r1, listOf (List.toArray vk1) ck1) :: (cL L, o7') :: (cK L, o6') :: (cH L, o3') :: (sl, listOf [Value.int (s0 : Nat) u0, .int (s1 : Nat) u1].toArray cs) :: (L + 1 + 1, o2) :: W) →
      (∀ a ∈ [lg, ml, kl, r0, r1], h.objs.size ≤ a) → o7'.data = .cell (some (.ref lg)) → o6'.data = .cell (some (.ref kl)) → o3'.data = .cell (some (.int (head : Nat) uh)) → base < 29 → head < 4 → StrsAre vm (marksOf base) → IntsAre vk0 K0 → IntsAre vk1 K1 → (∀ p ∈ (ml, listOf (List.toArray vm) cm) :: (kl, listOf [Value.ref r0, .ref r1].toArray 0) :: (r0, listOf (List.toArray vk0) ck0) :: (r1, listOf (List.toArray vk1) ck1) :: (sl, listOf [Value.int (s0 : Nat) u0, .int (s1 : Nat) u1].toArray cs) :: (cL L, o7') :: (cK L, o6') :: (cH L, o3') :: (L + 1 + 1, o2) :: W, p.1 ≠ lg) →
      wpAny (model PW w) A (execs (b_law.drop 11) (lEnv L)) Q E ⟨h', gs, d, t', os⟩) :
    wpAny (model PW w) A (execs (b_law.drop 7) (lEnv L)) Q E ⟨h, gs, d, t, os⟩ := by
  have hlen := IntsAre.length hI
  have hns : (K0 ++ K1 ++ [x]).length = s0 + s1 + 1 := by rw [List.length_append, List.length_append, hk0, hk1]; rfl
  refine wpAny_execs_cons ?_
  wtm_at "go2"
  have ers := N (rl, _) (.tail _ (.tail _ (.tail _ (.head _))))
  with_reducible refine x_Slice (part_none ?_)
  with_reducible refine part_some ?_
  wtm_at "go2"
  refine nm_C (na (o := _) (a := L + 1 + 1) N (by wtm_at "mm")) e2 ?_
  wtm_at "go2"
  have es := (N (sl, _) (by wtm_at "mm")).1
  with_reducible refine r_subL es (x := .int s0 u0) (by decide) (by decide) rfl ?_
  wtm_at "go2"
  refine r_slice F N ?_
  intro z1 h₂ F N l1 _ y1
  wtm_at "go2"
  refine r_sliceL F N (na (o := _) (a := rl) N (by wtm_at "mm")) (.head _) .none (.int _ _) (by rw [sizeLine_eq]; lia) ?_ (by with_unfolding_all rfl)
  intro r0 h₃ F N l2 _ y2
  wtm_at "go2"
  with_reducible refine x_Slice (part_some ?_)
  wtm_at "go2"
  refine nm_C (na (o := _) (a := L + 1 + 1) N (by wtm_at "mm")) e2 ?_
  wtm_at "go2"
  have es := (N (sl, _) (by wtm_at "mm")).1
  with_reducible refine r_subL es (x := .int s0 u0) (by decide) (by decide) rfl ?_
  wtm_at "go2"
  with_reducible refine part_some ?_
  wtm_at "go2"
  with_reducible refine r_neg ?_
  refine r_slice F N ?_
  intro z2 h₄ F N l3 _ y3
  wtm_at "go2"
  refine r_sliceL F N (na (o := _) (a := rl) N (by wtm_at "mm")) (.head _) (.int _ _) (.int _ _) (by rw [sizeLine_eq]; lia) ?_ (by with_unfolding_all rfl)
  intro r1 h₅ F N l4 _ y4
  wtm_at "go2"
  with_reducible refine r_newList F N ?_
  intro kl h₆ F N l5 y5
  wtm_at "go2"
  have hV0 : IntsAre (slicePick vr.toArray none (some (s0 : Int)) none).toList K0 := by
    have z := kmk_upto (y := (s0 : Int)) hI (by lia)
    rwa [Int.toNat_natCast, List.append_assoc, List.take_append_of_le_length (by lia), List.take_of_length_le (by lia)] at z
  have hV1 : IntsAre (slicePick vr.toArray (some (s0 : Int)) (some (-1)) none).toList K1 := by
    have z := kmk_run_neg (x := (s0 : Int)) (y := -1) hI (by lia) (by decide)
    rw [Int.toNat_natCast, hns, show (-(-1 : Int)).toNat = 1 from rfl, List.append_assoc, ← hk0, List.drop_left, show K0.length + s1 + 1 - 1 - K0.length = K1.length by rw [Nat.add_sub_cancel, Nat.add_sub_cancel_left]; exact (by assumption : K1.length = s1).symm, List.take_left] at z
    rw [← hk0]; exact z
  have ep0 : slicePick vr.toArray none (some (s0 : Int)) none = ((slicePick vr.toArray none (some (s0 : Int)) none).toList).toArray := by simp
  have ep1 : slicePick vr.toArray (some (s0 : Int)) (some (-1)) none = ((slicePick vr.toArray (some (s0 : Int)) (some (-1)) none).toList).toArray := by simp
  rw [ep0, ep1] at N
  generalize (slicePick vr.toArray none (some (s0 : Int)) none).toList = vk0 at hV0 N
  generalize (slicePick vr.toArray (some (s0 : Int)) (some (-1)) none).toList = vk1 at hV1 N
  have Wl : ∀ p ∈ (cL L, o7) :: (cK L, o6) :: (cH L, o3) :: (rl, listOf (List.toArray vr) cr) :: (sl, listOf [Value.int (s0 : Nat) u0, .int (s1 : Nat) u1].toArray cs) :: (L + 1 + 1, o2) :: (cl, listOf [Value.int c0 v0, .int c1 v1, .int c2 v2, .int c3 v3].toArray cc) :: W, p.1 < r0 := fun p hp => l2 p (.tail _ hp)
  have lr : r0 < r1 := l4 (r0, _) (by wtm_at "mm")
  have lk : r1 < kl := l5 (r1, _) (by wtm_at "mm")
  have N := News.sub (l' := (cK L, o6) :: (kl, listOf [Value.ref r0, .ref r1].toArray 0) :: (r0, listOf (List.toArray vk0) 0) :: (r1, listOf (List.toArray vk1) 0) :: (cL L, o7) :: (cH L, o3) :: (rl, listOf (List.toArray vr) cr) :: (sl, listOf [Value.int (s0 : Nat) u0, .int (s1 : Nat) u1].toArray cs) :: (L + 1 + 1, o2) :: (cl, listOf [Value.int c0 v0, .int c1 v1, .int c2 v2, .int c3 v3].toArray cc) :: W) N (by
    refine pm_cons (by wtm_at "mm") (pm_cons (by wtm_at "mm") (pm_cons (by wtm_at "mm") (pm_cons (by wtm_at "mm") (pm_cons (by wtm_at "mm") (pm_cons (by wtm_at "mm") ?_)))))
    exact pm_tail (pm_tail (pm_tail (pm_tail (pm_tail (pm_tail (pm_tail (pm_tail pm_id))))))))
  have c6 : cK L < r0 := Wl (cK L, o6) (by wtm_at "mm")
  have c7 : cL L < r0 := Wl (cL L, o7) (by wtm_at "mm")
  have c3' : cH L < r0 := Wl (cH L, o3) (by wtm_at "mm")
  refine r_stC F N (ne_cons (Nat.ne_of_gt (Nat.lt_trans c6 (Nat.lt_trans lr lk))) (ne_cons (Nat.ne_of_gt c6) (ne_cons (Nat.ne_of_gt (Nat.lt_trans c6 lr)) (ne_cons (Ne.symm (cKL L)) (ne_cons (cHK L) (hne (cK L) (by simp))))))) e6 ?_
  intro h₇ o6' F N d6
  wtm_at "go2"
  with_reducible refine x_AssTup ?_
  wtm_at "go2"
  have ec := (N (cl, _) (by wtm_at "mm")).1
  with_reducible refine r_subL ec (x := .int c3 v3) (by decide) (by decide) rfl ?_
  wtm_at "go2"
  with_reducible refine r_mod ?_ ?_
  · decide
  wtm_at "go2"
  with_reducible refine r_subL ec (x := .int c3 v3) (by decide) (by decide) rfl ?_
  wtm_at "go2"
  with_reducible refine r_div ?_ ?_ ?_
  · decide
  · decide
  wtm_at "go2"
  with_reducible refine r_mod ?_ ?_
  · decide
  wtm_at "go2"
  obtain ⟨base, hbase⟩ : ∃ b : Nat, c3 % 29 = b := ⟨(c3 % 29).toNat, zmodn (by decide)⟩
  obtain ⟨head, hhead⟩ : ∃ b : Nat, c3 / 29 % 4 = b := ⟨(c3 / 29 % 4).toNat, zmodn (by decide)⟩
  rw [hbase, hhead]
  have hb29 : base < 29 := by lia
  have hh4 : head < 4 := by lia
  clear hbase hhead
  with_reducible refine r_newTuple F N ?_
  intro tp h₈ F N l8 y8
  refine r_asTup am.hd F N (n0 N) ?_
  intro h₉ F N k9
  refine x_ord ?_
  wtm_at "sts"
  intro h10 F N
  refine x_ord ?_
  have N := News.sub (l' := (cH L, o3) :: (cK L, o6') :: (kl, listOf [Value.ref r0, .ref r1].toArray 0) :: (r0, listOf (List.toArray vk0) 0) :: (r1, listOf (List.toArray vk1) 0) :: (cL L, o7) :: (sl, listOf [Value.int (s0 : Nat) u0, .int (s1 : Nat) u1].toArray cs) :: (L + 1 + 1, o2) :: W) N (by
    refine pm_cons (by wtm_at "mm") (pm_cons (by wtm_at "mm") (pm_cons (by wtm_at "mm") (pm_cons (by wtm_at "mm") (pm_cons (by wtm_at "mm") (pm_cons (by wtm_at "mm") (pm_cons (by wtm_at "mm") (pm_cons (by wtm_at "mm") ?_)))))))
    exact pm_tail (pm_tail (pm_tail (pm_tail (pm_tail (pm_tail (pm_tail (pm_tail (pm_tail (pm_tail (pm_tail pm_id)))))))))))
  have hneW : ∀ c ∈ [cL L, cK L, cH L], ∀ p ∈ (sl, listOf [Value.int (s0 : Nat) u0, .int (s1 : Nat) u1].toArray cs) :: (L + 1 + 1, o2) :: W, p.1 ≠ c := by
    intro c hc p hp
    refine hne c hc p ?_
    rcases List.mem_cons.mp hp with rfl | hp
    · wtm_at "mm"
    rcases List.mem_cons.mp hp with rfl | hp
    · wtm_at "mm"
    exact .tail _ (.tail _ (.tail _ (.tail _ hp)))
  refine r_stC F N (ne_cons (Ne.symm (cHK L)) (ne_cons (Nat.ne_of_gt (Nat.lt_trans c3' (Nat.lt_trans lr lk))) (ne_cons (Nat.ne_of_gt c3') (ne_cons (Nat.ne_of_gt (Nat.lt_trans c3' lr)) (ne_cons (Ne.symm (cHL L)) (hneW (cH L) (by simp))))))) e3 ?_
  intro h11 o3' F N d3
  refine x_ord0 ?_
  wtm_at "go2"
  with_reducible refine nm_K F G LF.nMarks ?_
  wtm_at "go2"
  refine ⟨Kp.fnK LF.marks (G.X.keeps F.keep), ?_⟩
  have zr : ∀ p ∈ (cH L, o3') :: (cK L, o6') :: (kl, listOf [Value.ref r0, .ref r1].toArray 0) :: (r0, listOf (List.toArray vk0) 0) :: (r1, listOf (List.toArray vk1) 0) :: (cL L, o7) :: (sl, listOf [Value.int (s0 : Nat) u0, .int (s1 : Nat) u1].toArray cs) :: (L + 1 + 1, o2) :: W, p.1 < h11.objs.size := fun p hp => Heap.lt_size (N p hp).1
  refine marks_spec LF.marks LF.flg (G.keeps F.keep) (am.mono (by decide)) hb29 ?_
  intro ml h12 t12 vm cm k12 z12 em hM
  have N := News.cons (News.keep N k12) em (Nat.ne_of_gt (Nat.lt_of_lt_of_le (Fr.lt F) z12)) (none_of_size (Nat.le_trans (Fr.szle F) z12))
  have F := Fr.sub F k12
  wtm_at "sts"
  intro h13 F N
  wtm_at "go2"
  with_reducible refine r_newList F N ?_
  intro lg h14 F N l14 y14
  wtm_at "go2"
  have lm : ml < lg := l14 (ml, _) (.head _)
  have rm : r1 < ml := Nat.lt_of_lt_of_le (zr (r1, _) (by wtm_at "mm")) z12
  have N := News.sub (l' := (cL L, o7) :: (lg, listOf [].toArray 0) :: (ml, listOf (List.toArray vm) cm) :: (cH L, o3') :: (cK L, o6') :: (kl, listOf [Value.ref r0, .ref r1].toArray 0) :: (r0, listOf (List.toArray vk0) 0) :: (r1, listOf (List.toArray vk1) 0) :: (sl, listOf [Value.int (s0 : Nat) u0, .int (s1 : Nat) u1].toArray cs) :: (L + 1 + 1, o2) :: W) N (by
    refine pm_cons (by wtm_at "mm") (pm_cons (by wtm_at "mm") (pm_cons (by wtm_at "mm") (pm_cons (by wtm_at "mm") (pm_cons (by wtm_at "mm") (pm_cons (by wtm_at "mm") (pm_cons (by wtm_at "mm") (pm_cons (by wtm_at "mm") ?_)))))))
    exact pm_tail (pm_tail (pm_tail (pm_tail (pm_tail (pm_tail (pm_tail (pm_tail pm_id))))))))
  have r1l : r1 < lg := Nat.lt_trans rm lm
  refine r_stC F N (ne_cons (Nat.ne_of_gt (Nat.lt_trans c7 (Nat.lt_trans lr r1l))) (ne_cons (Nat.ne_of_gt (Nat.lt_trans c7 (Nat.lt_trans lr rm))) (ne_cons (cHL L) (ne_cons (cKL L) (ne_cons (Nat.ne_of_gt (Nat.lt_trans c7 (Nat.lt_trans lr lk))) (ne_cons (Nat.ne_of_gt c7) (ne_cons (Nat.ne_of_gt (Nat.lt_trans c7 lr)) (hneW (cL L) (by simp))))))))) e7 ?_
  intro h15 o7' F N d7
  show wpAny _ _ (execs (b_law.drop 11) (lEnv L)) _ _ _
  have q0 : h.objs.size ≤ r0 := Nat.le_trans y1 (Nat.le_of_lt (l2 (z1, _) (.head _)))
  refine q o7' o6' o3' lg ml kl r0 r1 vm cm vk0 0 vk1 0 base head _ _ h15 _ _ F (by with_unfolding_all rfl) (by with_unfolding_all rfl)
    (News.sub N (by
      refine pm_cons (by wtm_at "mm") (pm_cons (by wtm_at "mm") (pm_cons (by wtm_at "mm") (pm_cons (by wtm_at "mm") (pm_cons (by wtm_at "mm") (pm_cons (by wtm_at "mm") (pm_cons (by wtm_at "mm") (pm_cons (by wtm_at "mm") (pm_cons (by wtm_at "mm") (pm_cons (by wtm_at "mm") ?_)))))))))
      exact pm_tail (pm_tail (pm_tail (pm_tail (pm_tail (pm_tail (pm_tail (pm_tail (pm_tail (pm_tail pm_id))))))))))) ?_ d7 d6 d3 hb29 hh4 hM hV0 hV1 ?_
  · exact fa_cons (Nat.le_trans q0 (Nat.le_of_lt (Nat.lt_trans lr r1l))) (fa_cons (Nat.le_trans q0 (Nat.le_of_lt (Nat.lt_trans lr rm))) (fa_cons (Nat.le_trans q0 (Nat.le_of_lt (Nat.lt_trans lr lk))) (fa_cons (q0) (fa_cons (Nat.le_trans q0 (Nat.le_of_lt lr)) fa_nil))))
  · have hlt : ∀ p ∈ (cH L, o3) :: (sl, listOf [Value.int (s0 : Nat) u0, .int (s1 : Nat) u1].toArray cs) :: (L + 1 + 1, o2) :: W, p.1 < r0 := fun p hp => Wl p (by
      rcases List.mem_cons.mp hp with rfl | hp
      · wtm_at "mm"
      rcases List.mem_cons.mp hp with rfl | hp
      · wtm_at "mm"
      rcases List.mem_cons.mp hp with rfl | hp
      · wtm_at "mm"
      exact .tail _ (.tail _ (.tail _ (.tail _ (.tail _ (.tail _ (.tail _ hp)))))))
    have r0l : r0 < lg := Nat.lt_trans lr r1l
    refine ne_cons (Nat.ne_of_lt lm) (ne_cons (Nat.ne_of_lt (l14 (kl, _) (by wtm_at "mm"))) (ne_cons (Nat.ne_of_lt r0l) (ne_cons (Nat.ne_of_lt r1l) (ne_cons ?_ (ne_cons ?_ (ne_cons ?_ (ne_cons ?_ ?_)))))))
    · exact Nat.ne_of_lt (Nat.lt_trans (hlt (sl, _) (by wtm_at "mm")) r0l)
    · exact Nat.ne_of_lt (Nat.lt_trans c7 r0l)
    · exact Nat.ne_of_lt (Nat.lt_trans c6 r0l)
    · exact Nat.ne_of_lt (Nat.lt_trans c3' r0l)
    · exact fun p hp => Nat.ne_of_lt (Nat.lt_trans (hlt p (.tail _ (.tail _ hp))) r0l)
end
end Mine
end
-- L6
section
namespace Mine
noncomputable abbrev lawQ : Str := "law" ++ ".<locals>." ++ "<lambda>"
noncomputable abbrev tlClos (L : Addr) : List (Str × Addr) := [("log", cL L), ("keys", cK L)]
noncomputable abbrev tlO (L : Addr) (pm : Value) (c' : Addr) (ctv : Value) : Obj := kla_obj "<lambda>" lawQ tellA tellB tellS (tlClos L) pm c' ctv
noncomputable def TabT (tl : List (Addr × Obj)) (ps : Array Value) : Prop := ∀ h'' : Heap, (∀ p ∈ tl, h''.get? p.1 = some p.2) → ∀ z, TabOk h'' z lawQ ps
theorem TabT.mono {tl tl' : List (Addr × Obj)} {ps : Array Value} (x : TabT tl ps) (k : ∀ p ∈ tl, p ∈ tl') : TabT tl' ps := fun h'' ko z => x h'' (fun p hp => ko p (k p hp)) z
structure LawT (L : Addr) (s0 s1 base head : Nat) (K0 K1 : List Int) (lg kl r0 r1 ml tell : Addr) (tl : List (Addr × Obj)) : Prop where
  e2 : ∃ sl o u0 u1 c, (L + 1 + 1, o) ∈ tl ∧ o.data = .cell (some (.ref sl)) ∧ (sl, listOf [Value.int (s0 : Nat) u0, .int (s1 : Nat) u1].toArray c) ∈ tl
  ekl : ∃ c, (kl, listOf [Value.ref r0, .ref r1].toArray c) ∈ tl
  er0 : ∃ vs c, (r0, listOf (List.toArray vs) c) ∈ tl ∧ IntsAre vs K0
  er1 : ∃ vs c, (r1, listOf (List.toArray vs) c) ∈ tl ∧ IntsAre vs K1
  eK : ∃ o, (cK L, o) ∈ tl ∧ o.data = .cell (some (.ref kl))
  eL : ∃ o, (cL L, o) ∈ tl ∧ o.data = .cell (some (.ref lg))
  eH : ∃ o u, (cH L, o) ∈ tl ∧ o.data = .cell (some (.int (head : Nat) u))
  eml : ∃ vs c, (ml, listOf (List.toArray vs) c) ∈ tl ∧ StrsAre vs (marksOf base)
  etl : ∃ pm c' ctv, (tell, tlO L pm c' ctv) ∈ tl ∧ ∀ h'' : Heap, (∀ p ∈ tl, h''.get? p.1 = some p.2) → h''.CodeRec (.ref c') lawQ
  n0 : 1 ≤ s0 ∧ s0 ≤ 9 ∧ 1 ≤ s1 ∧ s1 ≤ 9 ∧ base < 29 ∧ head < 4
  n1 : K0.length = s0 ∧ K1.length = s1
  lne : ∀ p ∈ tl, p.1 ≠ lg
theorem LawT.mono {L : Addr} {s0 s1 base head : Nat} {K0 K1 : List Int} {lg kl r0 r1 ml tell : Addr} {tl tl' : List (Addr × Obj)} (x : LawT L s0 s1 base head K0 K1 lg kl r0 r1 ml tell tl) (k : ∀ p ∈ tl, p ∈ tl') (hl : ∀ p ∈ tl', p.1 ≠ lg) : LawT L s0 s1 base head K0 K1 lg kl r0 r1 ml tell tl' where
  e2 := by obtain ⟨sl, o, u0, u1, c, a, b, e⟩ := x.e2; exact ⟨sl, o, u0, u1, c, k _ a, b, k _ e⟩
  ekl := by obtain ⟨c, a⟩ := x.ekl; exact ⟨c, k _ a⟩
  er0 := by obtain ⟨vs, c, a, b⟩ := x.er0; exact ⟨vs, c, k _ a, b⟩
  er1 := by obtain ⟨vs, c, a, b⟩ := x.er1; exact ⟨vs, c, k _ a, b⟩
  eK := by obtain ⟨o, a, b⟩ := x.eK; exact ⟨o, k _ a, b⟩
  eL := by obtain ⟨o, a, b⟩ := x.eL; exact ⟨o, k _ a, b⟩
  eH := by obtain ⟨o, u, a, b⟩ := x.eH; exact ⟨o, u, k _ a, b⟩
  eml := by obtain ⟨vs, c, a, b⟩ := x.eml; exact ⟨vs, c, k _ a, b⟩
  etl := by obtain ⟨pm, c', ctv, a, b⟩ := x.etl; exact ⟨pm, c', ctv, k _ a, fun h'' ko => b h'' fun p hp => ko p (k p hp)⟩
  n0 := x.n0
  n1 := x.n1
  lne := hl
noncomputable abbrev kfOf (K0 K1 : List Int) (r i : Nat) : Int := if r = 0 then K0.getD i 0 else K1.getD i 0
noncomputable abbrev szOf (s0 s1 : Nat) (r : Nat) : Nat := if r = 0 then s0 else s1
section
variable {w : World} {A : Around} {E : Value → Shared → Prop} {K : Frag} {mg mb : Str → Option Value} {h g b : Heap} {gs : Array GenState} {d : Drawn} {t : Nat} {os : OsState} {L : Addr} {m : Str → Option Value}
theorem LawT.tellOk {s0 s1 base head : Nat} {K0 K1 : List Int} {lg kl r0 r1 ml tell : Addr} {tl : List (Addr × Obj)} (x : LawT L s0 s1 base head K0 K1 lg kl r0 r1 ml tell tl) (G : Gd K mg mb (b.hide lg)) (hb : ∀ p ∈ tl, b.get? p.1 = some p.2) :
    TellOk w tell lg 2 b gs d os (kfOf K0 K1) (szOf s0 s1) := by
  have hb' : ∀ p ∈ tl, (b.hide lg).get? p.1 = some p.2 := fun p hp => (Heap.hide_ne b (x.lne p hp)).trans (hb p hp)
  obtain ⟨c, a1⟩ := x.ekl
  obtain ⟨v0, d0, a2, i0⟩ := x.er0
  obtain ⟨v1, d1, a3, i1⟩ := x.er1
  obtain ⟨oK, a4, b4⟩ := x.eK
  obtain ⟨oL, a5, b5⟩ := x.eL
  obtain ⟨pm, c', ctv, a6, b6⟩ := x.etl
  have z := tell_spec (w := w) (gs := gs) (d := d) (os := os) G (hb' _ a6) (b6 _ hb') (by with_unfolding_all rfl) (hb' _ a4) b4 (by with_unfolding_all rfl) (hb' _ a5) b5 (hb' _ a1) (hb' _ a2) i0 (hb' _ a3) i1 (by have := x.n0; have := x.n1; lia) (by have := x.n0; have := x.n1; lia)
  rw [x.n1.1, x.n1.2] at z
  exact z
theorem LawT.kp {s0 s1 base head : Nat} {K0 K1 : List Int} {lg kl r0 r1 ml tell : Addr} {tl : List (Addr × Obj)} (x : LawT L s0 s1 base head K0 K1 lg kl r0 r1 ml tell tl) {M : Model} (hb : ∀ p ∈ tl, b.get? p.1 = some p.2) : Looks M b (keeperOf (.ref tell)) .frame := by
  obtain ⟨pm, c', ctv, a6, b6⟩ := x.etl
  intro A Q E s k qq
  unfold keeperOf
  refine wpAny_bind (wpAny_load (k _ _ (hb _ a6)) ?_)
  exact wpAny_pure qq
end
end Mine
end
-- L7
section
namespace Mine
section
variable {w : World} {A : Around} {E : Value → Shared → Prop} {K : Frag} {mg mb : Str → Option Value} {h g : Heap} {gs : Array GenState} {d : Drawn} {t : Nat} {os : OsState} {L : Addr} {m : Str → Option Value}
set_option maxHeartbeats 2000000 in
theorem law11 (LN : LawN K) (LF : LawF K) (G : Gd K mg mb g) (am : Amb A 29) {W : List (Addr × Obj)} {sl lg ml kl r0 r1 : Addr} {cs cm ck ck0 ck1 s0 s1 base head : Nat} {vm vk0 vk1 : List Value} {K0 K1 : List Int} {u0 u1 uh : Tok} {o2 o3 o6 o7 : Obj}
    (C : CodeHd g 213 211) (B : g.BuiltinsAt mg 211) (F : Fr g L h m)
    (N : News g L h ((211, tabObj #[]) :: (lg, listOf [].toArray 0) :: (ml, listOf (List.toArray vm) cm) :: (kl, listOf [Value.ref r0, .ref r1].toArray ck) :: (r0, listOf (List.toArray vk0) ck0) :: (r1, listOf (List.toArray vk1) ck1) :: (cL L, o7) :: (cK L, o6) :: (cH L, o3) :: (sl, listOf [Value.int (s0 : Nat) u0, .int (s1 : Nat) u1].toArray cs) :: (L + 1 + 1, o2) :: W))
    (e7 : o7.data = .cell (some (.ref lg))) (e6 : o6.data = .cell (some (.ref kl))) (e3 : o3.data = .cell (some (.int (head : Nat) uh))) (e2 : o2.data = .cell (some (.ref sl))) (hb : base < 29) (hh : head < 4) (hM : StrsAre vm (marksOf base)) (hI0 : IntsAre vk0 K0) (hI1 : IntsAre vk1 K1)
    (hlT : ∀ p ∈ (ml, listOf (List.toArray vm) cm) :: (kl, listOf [Value.ref r0, .ref r1].toArray ck) :: (r0, listOf (List.toArray vk0) ck0) :: (r1, listOf (List.toArray vk1) ck1) :: (cL L, o7) :: (cK L, o6) :: (cH L, o3) :: (sl, listOf [Value.int (s0 : Nat) u0, .int (s1 : Nat) u1].toArray cs) :: (L + 1 + 1, o2) :: [], p.1 ≠ lg ∧ L < p.1) (h211 : 211 < L) (hlg : L < lg) (hW2 : ∀ p ∈ W, p.1 ≠ lg ∧ p.1 ≠ 211)
    (a0 : 1 ≤ s0) (a1 : s0 ≤ 9) (a2 : 1 ≤ s1) (a3 : s1 ≤ 9) (k0 : K0.length = s0) (k1 : K1.length = s1) {Q : Flow → Shared → Prop}
    (q : ∀ tell ps tl vs c h' t' m', Fr g L h' m' → (∀ x : Str, x ≠ "tell" → m' x = m x) → m' "tell" = some (.ref tell) → News g L h' ((211, tabObj ps) :: (lg, listOf (List.toArray vs) c) :: (tl ++ W)) → IntsAre vs [89 + (s1 : Int)] → LawT L s0 s1 base head K0 K1 lg kl r0 r1 ml tell tl → TabT tl ps → (∀ p ∈ tl, p ∈ (ml, listOf (List.toArray vm) cm) :: (kl, listOf [Value.ref r0, .ref r1].toArray ck) :: (r0, listOf (List.toArray vk0) ck0) :: (r1, listOf (List.toArray vk1) ck1) :: (cL L, o7) :: (cK L, o6) :: (cH L, o3) :: (sl, listOf [Value.int (s0 : Nat) u0, .int (s1 : Nat) u1].toArray cs) :: (L + 1 + 1, o2) :: [] ∨ h.objs.size ≤ p.1) →
      wpAny (model PW w) A (execs (b_law.drop 13) (lEnv L)) Q E ⟨h', gs, d, t', os⟩) :
    wpAny (model PW w) A (execs (b_law.drop 11) (lEnv L)) Q E ⟨h, gs, d, t, os⟩ := by
  refine wpAny_execs_cons ?_
  wtm_at "go2"
  have hne : ∀ p ∈ (lg, listOf [].toArray 0) :: (ml, listOf (List.toArray vm) cm) :: (kl, listOf [Value.ref r0, .ref r1].toArray ck) :: (r0, listOf (List.toArray vk0) ck0) :: (r1, listOf (List.toArray vk1) ck1) :: (cL L, o7) :: (cK L, o6) :: (cH L, o3) :: (sl, listOf [Value.int (s0 : Nat) u0, .int (s1 : Nat) u1].toArray cs) :: (L + 1 + 1, o2) :: W, p.1 ≠ 211 := by
    have ne2 : ∀ p ∈ (ml, listOf (List.toArray vm) cm) :: (kl, listOf [Value.ref r0, .ref r1].toArray ck) :: (r0, listOf (List.toArray vk0) ck0) :: (r1, listOf (List.toArray vk1) ck1) :: (cL L, o7) :: (cK L, o6) :: (cH L, o3) :: (sl, listOf [Value.int (s0 : Nat) u0, .int (s1 : Nat) u1].toArray cs) :: (L + 1 + 1, o2) :: [], p.1 ≠ 211 := fun p hp => Nat.ne_of_gt (Nat.lt_trans h211 (hlT p hp).2)
    exact ne_cons (Nat.ne_of_gt (Nat.lt_trans h211 hlg)) (ne_cons (ne2 _ (by wtm_at "mm")) (ne_cons (ne2 _ (by wtm_at "mm")) (ne_cons (ne2 _ (by wtm_at "mm")) (ne_cons (ne2 _ (by wtm_at "mm")) (ne_cons (ne2 _ (by wtm_at "mm")) (ne_cons (ne2 _ (by wtm_at "mm")) (ne_cons (ne2 _ (by wtm_at "mm")) (ne_cons (ne2 _ (by wtm_at "mm")) (ne_cons (ne2 _ (by wtm_at "mm")) fun p hp => (hW2 p hp).2)))))))))
  have zlg : lg < h.objs.size := Heap.lt_size (n1 N)
  refine r_lambda F G N hne C ⟨trivial, fun c hc => by cases hc⟩ B ?_
  intro f c' ctv h₂ t₂ ps own F N hf hown hrec hzf
  wtm_at "go2"
  wtm_at "sts"
  intro h₃ F N
  wtm_at "go2"
  have hown2 : ∀ p ∈ own, p.1 ≠ lg ∧ L < p.1 := fun p hp => by
    have z1 := hown p hp
    exact ⟨Nat.ne_of_gt (Nat.lt_of_lt_of_le zlg z1), Nat.lt_of_lt_of_le (Nat.lt_trans hlg zlg) z1⟩
  have hf2 : f ≠ lg ∧ L < f := ⟨Nat.ne_of_gt (hf (lg, _) (.tail _ (List.mem_append_right _ (.head _)))), Nat.lt_trans hlg (hf (lg, _) (.tail _ (List.mem_append_right _ (.head _))))⟩
  obtain ⟨tl, htl⟩ : ∃ tl, tl = (f, tlO L ((mg "__name__").getD .none) c' ctv) :: (ml, listOf (List.toArray vm) cm) :: (kl, listOf [Value.ref r0, .ref r1].toArray ck) :: (r0, listOf (List.toArray vk0) ck0) :: (r1, listOf (List.toArray vk1) ck1) :: (cL L, o7) :: (cK L, o6) :: (cH L, o3) :: (sl, listOf [Value.int (s0 : Nat) u0, .int (s1 : Nat) u1].toArray cs) :: (L + 1 + 1, o2) :: own := ⟨_, rfl⟩
  have memt : ∀ p ∈ (f, tlO L ((mg "__name__").getD .none) c' ctv) :: (ml, listOf (List.toArray vm) cm) :: (kl, listOf [Value.ref r0, .ref r1].toArray ck) :: (r0, listOf (List.toArray vk0) ck0) :: (r1, listOf (List.toArray vk1) ck1) :: (cL L, o7) :: (cK L, o6) :: (cH L, o3) :: (sl, listOf [Value.int (s0 : Nat) u0, .int (s1 : Nat) u1].toArray cs) :: (L + 1 + 1, o2) :: own, p ∈ tl := fun p hp => htl ▸ hp
  have N : News g L h₃ ((211, tabObj ps) :: (lg, listOf [].toArray 0) :: (tl ++ W)) := by
    refine News.sub N ?_
    rw [htl]
    have kk : ∀ p ∈ own, p ∈ (f, tlO L ((mg "__name__").getD .none) c' ctv) :: (211, tabObj ps) :: (own ++ (lg, listOf [].toArray 0) :: (ml, listOf (List.toArray vm) cm) :: (kl, listOf [Value.ref r0, .ref r1].toArray ck) :: (r0, listOf (List.toArray vk0) ck0) :: (r1, listOf (List.toArray vk1) ck1) :: (cL L, o7) :: (cK L, o6) :: (cH L, o3) :: (sl, listOf [Value.int (s0 : Nat) u0, .int (s1 : Nat) u1].toArray cs) :: (L + 1 + 1, o2) :: W) := fun p hp => .tail _ (.tail _ (List.mem_append_left _ hp))
    refine pm_cons (.tail _ (.head _)) (pm_cons (.tail _ (.tail _ (List.mem_append_right _ (.head _)))) (pm_cons (.head _) ?_))
    refine pm_app (l := (ml, listOf (List.toArray vm) cm) :: (kl, listOf [Value.ref r0, .ref r1].toArray ck) :: (r0, listOf (List.toArray vk0) ck0) :: (r1, listOf (List.toArray vk1) ck1) :: (cL L, o7) :: (cK L, o6) :: (cH L, o3) :: (sl, listOf [Value.int (s0 : Nat) u0, .int (s1 : Nat) u1].toArray cs) :: (L + 1 + 1, o2) :: own) ?_ ?_
    · have kr : ∀ p ∈ (ml, listOf (List.toArray vm) cm) :: (kl, listOf [Value.ref r0, .ref r1].toArray ck) :: (r0, listOf (List.toArray vk0) ck0) :: (r1, listOf (List.toArray vk1) ck1) :: (cL L, o7) :: (cK L, o6) :: (cH L, o3) :: (sl, listOf [Value.int (s0 : Nat) u0, .int (s1 : Nat) u1].toArray cs) :: (L + 1 + 1, o2) :: W, p ∈ (f, tlO L ((mg "__name__").getD .none) c' ctv) :: (211, tabObj ps) :: (own ++ (lg, listOf [].toArray 0) :: (ml, listOf (List.toArray vm) cm) :: (kl, listOf [Value.ref r0, .ref r1].toArray ck) :: (r0, listOf (List.toArray vk0) ck0) :: (r1, listOf (List.toArray vk1) ck1) :: (cL L, o7) :: (cK L, o6) :: (cH L, o3) :: (sl, listOf [Value.int (s0 : Nat) u0, .int (s1 : Nat) u1].toArray cs) :: (L + 1 + 1, o2) :: W) := fun p hp => .tail _ (.tail _ (List.mem_append_right _ (.tail _ hp)))
      exact pm_cons (kr _ (by wtm_at "mm")) (pm_cons (kr _ (by wtm_at "mm")) (pm_cons (kr _ (by wtm_at "mm")) (pm_cons (kr _ (by wtm_at "mm")) (pm_cons (kr _ (by wtm_at "mm")) (pm_cons (kr _ (by wtm_at "mm")) (pm_cons (kr _ (by wtm_at "mm")) (pm_cons (kr _ (by wtm_at "mm")) (pm_cons (kr _ (by wtm_at "mm")) kk))))))))
    · exact fun p hp => .tail _ (.tail _ (List.mem_append_right _ (.tail _ (.tail _ (.tail _ (.tail _ (.tail _ (.tail _ (.tail _ (.tail _ (.tail _ (.tail _ hp))))))))))))
  have ow : ∀ p ∈ own, p ∈ tl := fun p hp => memt p (.tail _ (.tail _ (.tail _ (.tail _ (.tail _ (.tail _ (.tail _ (.tail _ (.tail _ (.tail _ hp))))))))))
  have hrec : ∀ h'' : Heap, (∀ p ∈ own, h''.get? p.1 = some p.2) → (TabOk h'' ⟨177, 11, 177, 108⟩ lawQ #[] → h''.CodeRec (.ref c') lawQ) ∧ ∀ p, TabOk h'' p lawQ #[] → TabOk h'' p lawQ ps := hrec
  have tabT : TabT tl ps := fun h'' ko z => (hrec h'' fun p hp => ko p (ow p hp)).2 z ⟨trivial, fun c hc => by cases hc⟩
  have lt : LawT L s0 s1 base head K0 K1 lg kl r0 r1 ml f tl := by
    refine ⟨⟨sl, o2, u0, u1, cs, memt _ (by wtm_at "mm"), e2, memt _ (by wtm_at "mm")⟩, ⟨ck, memt _ (by wtm_at "mm")⟩, ⟨vk0, ck0, memt _ (by wtm_at "mm"), hI0⟩, ⟨vk1, ck1, memt _ (by wtm_at "mm"), hI1⟩, ⟨o6, memt _ (by wtm_at "mm"), e6⟩, ⟨o7, memt _ (by wtm_at "mm"), e7⟩, ⟨o3, uh, memt _ (by wtm_at "mm"), e3⟩, ⟨vm, cm, memt _ (by wtm_at "mm"), hM⟩, ⟨_, c', ctv, memt _ (by wtm_at "mm"), fun h'' ko => (hrec h'' fun p hp => ko p (ow p hp)).1 ⟨trivial, fun c hc => by cases hc⟩⟩, ⟨a0, a1, a2, a3, hb, hh⟩, ⟨k0, k1⟩, ?_⟩
    rw [htl]
    intro p hp
    rcases List.mem_cons.mp hp with rfl | hp
    · exact hf2.1
    · rcases List.mem_append.mp (show p ∈ ((ml, listOf (List.toArray vm) cm) :: (kl, listOf [Value.ref r0, .ref r1].toArray ck) :: (r0, listOf (List.toArray vk0) ck0) :: (r1, listOf (List.toArray vk1) ck1) :: (cL L, o7) :: (cK L, o6) :: (cH L, o3) :: (sl, listOf [Value.int (s0 : Nat) u0, .int (s1 : Nat) u1].toArray cs) :: (L + 1 + 1, o2) :: []) ++ own from hp) with hp | hp
      · exact (hlT p hp).1
      · exact (hown2 p hp).1
  have e2' := memt (L + 1 + 1, o2) (by wtm_at "mm")
  have esl := memt (sl, listOf [Value.int (s0 : Nat) u0, .int (s1 : Nat) u1].toArray cs) (by wtm_at "mm")
  have e6' := memt (cK L, o6) (by wtm_at "mm")
  have e7' := memt (cL L, o7) (by wtm_at "mm")
  have ekl := memt (kl, listOf [Value.ref r0, .ref r1].toArray ck) (by wtm_at "mm")
  have er1 := memt (r1, listOf (List.toArray vk1) ck1) (by wtm_at "mm")
  have hwh : ∀ p ∈ tl, p ∈ (ml, listOf (List.toArray vm) cm) :: (kl, listOf [Value.ref r0, .ref r1].toArray ck) :: (r0, listOf (List.toArray vk0) ck0) :: (r1, listOf (List.toArray vk1) ck1) :: (cL L, o7) :: (cK L, o6) :: (cH L, o3) :: (sl, listOf [Value.int (s0 : Nat) u0, .int (s1 : Nat) u1].toArray cs) :: (L + 1 + 1, o2) :: [] ∨ h.objs.size ≤ p.1 := by
    rw [htl]
    intro p hp
    rcases List.mem_cons.mp hp with rfl | hp
    · exact .inr hzf
    · rcases List.mem_append.mp (show p ∈ ((ml, listOf (List.toArray vm) cm) :: (kl, listOf [Value.ref r0, .ref r1].toArray ck) :: (r0, listOf (List.toArray vk0) ck0) :: (r1, listOf (List.toArray vk1) ck1) :: (cL L, o7) :: (cK L, o6) :: (cH L, o3) :: (sl, listOf [Value.int (s0 : Nat) u0, .int (s1 : Nat) u1].toArray cs) :: (L + 1 + 1, o2) :: []) ++ own from hp) with hp | hp
      · exact .inl hp
      · exact .inr (hown p hp)
  clear htl memt
  with_reducible refine nm_K F G LF.nInfo ?_
  with_reducible refine x_cw ?_
  wtm_at "go2"
  refine nm_C (na N (.tail _ (.tail _ (List.mem_append_left _ e2')))) e2 ?_
  wtm_at "go2"
  have es := (na N (.tail _ (.tail _ (List.mem_append_left _ esl))))
  with_reducible refine r_subL es (x := .int s1 u1) (by decide) (by decide) rfl ?_
  wtm_at "go2"
  have hlg1 := n1 N
  have hlgL : lg ≠ L ∧ g.get? lg = none := (N _ (.tail _ (.head _))).2
  have hsg : Sub g (h₃.hide lg) := subHideR F.keep hlgL.2
  have htk : ∀ p ∈ tl, h₃.get? p.1 = some p.2 := fun p hp => na N (.tail _ (.tail _ (List.mem_append_left _ hp)))
  have htkh : ∀ p ∈ tl, (h₃.hide lg).get? p.1 = some p.2 := fun p hp => (Heap.hide_ne h₃ (lt.lne p hp)).trans (htk p hp)
  have TK := lt.tellOk (w := w) (gs := gs) (d := d) (os := os) (G.keeps (subHideR hsg hlgL.2)) htkh
  refine ⟨Kp.fnK LF.tkn.info (G.X.keeps F.keep), ?_⟩
  have e1 : (s1 : Int) - 1 = ((s1 - 1 : Nat) : Int) := zi2 (by assumption)
  rw [e1]
  show wpAny _ _ (call (.ref 59) [_, _] [("row", _), ("item", _)]) _ _ _
  refine info_spec LF.tkn.info (P := fun v o' => ∃ u vs c, v = .int (kfOf K0 K1 1 (s1 - 1)) u ∧ o' = listOf (List.toArray vs) c ∧ IntsAre vs [entry 1 (s1 - 1) 9]) (n := 2) (lg := lg) (G.keeps hsg) (am.mono (by decide)) hlg1 ?_ ?_ ?_ ?_ ?_ ?_
  · show List.Nodup [("row" : Str), "item"]
    decide +kernel
  · simp
  · intro pm; kernel_rfl
  · intro h2 k2
    exact lt.kp fun p hp => k2 _ _ (htkh p hp)
  · intro A E Q h2 t2 am3 k2 sz2 e3 q2
    refine TK _ _ _ h2 t2 (s1 - 1) 1 9 _ _ _ [] am3 (by decide) ?_ (by decide) (by simp) k2 (by rw [Heap.hide_size]; exact sz2) ⟨[], 0, e3, .nil⟩ ?_
    · show s1 - 1 < szOf s0 s1 1
      simp [szOf]; lia
    · rintro h3 t3 u' k4 ⟨ls3, lc3, e4, I3⟩
      exact q2 _ h3 t3 _ ⟨u', ls3, lc3, rfl, rfl, I3⟩ k4 e4
  intro a r h₄ t₄ o' zq5 k4 e4 e5 hsza
  obtain ⟨u', vs, c, rfl, rfl, I2⟩ := zq5
  have aL : a ≠ L ∧ g.get? a = none := ⟨Nat.ne_of_gt (Nat.lt_of_lt_of_le (Fr.lt F) hsza), none_of_size (Nat.le_trans (Fr.szle F) hsza)⟩
  have hne3 : ∀ p ∈ (211, tabObj ps) :: (tl ++ W), p.1 ≠ lg := ne_cons (Nat.ne_of_lt (Nat.lt_trans h211 hlg)) (fun p hp => by
    rcases List.mem_append.mp hp with hp | hp
    · exact (lt.lne p hp)
    · exact (hW2 p hp).1)
  have F := Fr.ext F hlgL.1 hlgL.2 (of_hide' k4)
  have N : News g L h₄ ((a, tupO [Value.int (kfOf K0 K1 1 (s1 - 1)) u', .int (kfOf K0 K1 1 (s1 - 1)) u']) :: (211, tabObj ps) :: (lg, listOf (List.toArray vs) c) :: (tl ++ W)) := by
    have N1 : News g L h₃ ((211, tabObj ps) :: (tl ++ W)) := News.sub N (pm_cons (.head _) (pm_tail (pm_tail pm_id)))
    have N2 := News.ext N1 hne3 (of_hide' k4)
    refine News.cons (News.swap (News.cons N2 e4 hlgL.1 hlgL.2)) e5 aL.1 aL.2
  wtm_at "go2"
  refine nm_C (na N (.tail _ (.tail _ (.tail _ (List.mem_append_left _ e6'))))) e6 ?_
  wtm_at "go2"
  have ekl2 := na N (.tail _ (.tail _ (.tail _ (List.mem_append_left _ ekl))))
  have er12 := na N (.tail _ (.tail _ (.tail _ (List.mem_append_left _ er1))))
  with_reducible refine r_subL ekl2 (x := .ref r1) (by decide) (by decide) rfl ?_
  wtm_at "go2"
  have hvl : vk1.length = s1 := by rw [IntsAre.length hI1, k1]
  obtain ⟨uK, huK⟩ := IntsAre.at_ hI1 (i := s1 - 1) (by lia)
  have hidx : ((-1 : Int) + (vk1.toArray.size : Int)).toNat = s1 - 1 := by rw [List.size_toArray, hvl]; exact zt1 (by assumption)
  have hsz1 : -(vk1.toArray.size : Int) ≤ -1 := by rw [List.size_toArray, hvl]; exact zng (by assumption)
  with_reducible refine r_neg ?_
  with_reducible refine r_subLn er12 ?_ ?_ ?_ (x := .int (kfOf K0 K1 1 (s1 - 1)) uK) ?_ ?_
  · decide
  · exact hsz1
  · decide
  · rw [hidx, List.getElem?_toArray]; exact huK
  wtm_at "go2"
  refine nm_C (na N (.tail _ (.tail _ (.tail _ (List.mem_append_left _ e6'))))) e6 ?_
  wtm_at "go2"
  with_reducible refine r_subL ekl2 (x := .ref r1) (by decide) (by decide) rfl ?_
  wtm_at "go2"
  with_reducible refine r_neg ?_
  with_reducible refine r_subLn er12 ?_ ?_ ?_ (x := .int (kfOf K0 K1 1 (s1 - 1)) uK) ?_ ?_
  · decide
  · exact hsz1
  · decide
  · rw [hidx, List.getElem?_toArray]; exact huK
  wtm_at "go2"
  with_reducible refine r_newTuple F N ?_
  intro b2 h₅ F N l5 _
  have RD : ∀ {x u1 u2}, Rds h₅ 1 [Value.int x u1, .int x u2] [.int x, .int x] := Rds.cons (.int _ _) (Rds.cons (.int _ _) .nil)
  refine r_neSame (Rd.tuple (n1 N) RD) (Rd.tuple (n0 N) RD) (by decide) (by have := am.un; lia) ?_
  wtm_at "go2"
  rw [if_neg (by decide)]
  wtm_at "go2"
  have tlm : ∀ p ∈ tl, p ∈ (b2, tupO [Value.int (kfOf K0 K1 1 (s1 - 1)) uK, .int (kfOf K0 K1 1 (s1 - 1)) uK]) :: (a, tupO [Value.int (kfOf K0 K1 1 (s1 - 1)) u', .int (kfOf K0 K1 1 (s1 - 1)) u']) :: (211, tabObj ps) :: (lg, listOf (List.toArray vs) c) :: (tl ++ W) := fun p hp => .tail _ (.tail _ (.tail _ (.tail _ (List.mem_append_left _ hp))))
  have N : News g L h₅ _ := N
  refine nm_C (na N (tlm _ e7')) e7 ?_
  wtm_at "go2"
  refine nm_C (na N (tlm _ e2')) e2 ?_
  wtm_at "go2"
  have es := na N (tlm _ esl)
  with_reducible refine r_subL es (x := .int s1 u1) (by decide) (by decide) rfl ?_
  wtm_at "go2"
  with_reducible refine r_newList F N ?_
  intro b3 h₆ F N l6 _
  have een : entry 1 (s1 - 1) 9 = 89 + (s1 : Int) := by
    show (10 * ((9 : Nat) : Int) + ((s1 - 1 : Nat) : Int)) = 89 + (s1 : Int)
    lia
  rw [een] at I2
  have elg := na N (.tail _ (.tail _ (.tail _ (.tail _ (.head _)))))
  refine r_neSame (Rd.list elg (Rds.ints I2)) (Rd.list (n0 N) (Rds.ints (.cons _ _ .nil))) (by decide) (by have := am.un; lia) ?_
  refine wpAny_truthy_bool ?_
  refine isTrue_or_nil ?_
  rw [if_neg (by decide)]
  refine wpAny_execs_nil ?_
  show wpAny _ _ (execs (b_law.drop 13) (lEnv L)) _ _ _
  refine q f ps tl vs c h₆ _ _ F ?_ (by with_unfolding_all rfl) (News.sub N (pm_tail (pm_tail (pm_tail pm_id)))) I2 lt tabT hwh
  intro x hx
  exact if_neg hx
end
end Mine
end
-- L8
section
namespace Mine
theorem sub_tup_tup : isSubtype (.type "tuple") (.type "tuple") = pure true := by rw [isSubtype_type]; kernel_rfl
section
variable {prog : Program} {w : World} {A : Around} {E : Value → Shared → Prop} {s : Shared} {Q : Value → Shared → Prop}
theorem r_isTup {a : Addr} {vs : List Value} (e : s.heap.get? a = some (tupO vs)) (q : Q (.bool true) s) : wpAny (model prog w) A (call (.builtin "isinstance") [.ref a, .type "tuple"] []) Q E s :=
  call_isinstance (isinstance_true (Tx := "tuple") F.isi_meta_tuple sub_tup_tup) ⟨⟨_, e, rfl⟩, q⟩
end
section
variable {w : World} {A : Around} {E : Value → Shared → Prop} {K : Frag} {mg mb : Str → Option Value} {h g : Heap} {gs : Array GenState} {d : Drawn} {t : Nat} {os : OsState} {L : Addr} {m : Str → Option Value}
set_option maxHeartbeats 2000000 in
theorem law13 (LN : LawN K) (LF : LawF K) (G : Gd K mg mb g) (am : Amb A 29) {W : List (Addr × Obj)} (F : Fr g L h m) (N : News g L h W) {Q : Flow → Shared → Prop}
    (q : ∀ h' t' m', Fr g L h' m' → (∀ x : Str, x ≠ "bare" → m' x = m x) → News g L h' W → h.objs.size ≤ h'.objs.size → 
      wpAny (model PW w) A (execs (b_law.drop 15) (lEnv L)) Q E ⟨h', gs, d, t', os⟩) :
    wpAny (model PW w) A (execs (b_law.drop 13) (lEnv L)) Q E ⟨h, gs, d, t, os⟩ := by
  refine wpAny_execs_cons ?_
  wtm_at "go2"
  with_reducible refine nm_K F G LF.nInfo ?_
  with_reducible refine x_cw ?_
  wtm_at "go2"
  refine ⟨Kp.fnK LF.tkn.info (G.X.keeps F.keep), ?_⟩
  show wpAny _ _ (call (.ref 59) [_, _] [("row", _)]) _ _ _
  refine info_none LF.tkn.info LF.nUnk (G.keeps F.keep) (am.mono (by decide)) ?_ ?_ ?_
  · show List.Nodup [("row" : Str)]
    decide +kernel
  · intro pm; kernel_rfl
  intro a h₂ t₂ u k2 hsz e2
  have aL : a ≠ L ∧ g.get? a = none := ⟨Nat.ne_of_gt (Nat.lt_of_lt_of_le (Fr.lt F) hsz), none_of_size (Nat.le_trans (Fr.szle F) hsz)⟩
  have N := News.cons (News.keep N k2) e2 aL.1 aL.2
  have F := Fr.sub F k2
  wtm_at "sts"
  intro h₃ F N
  wtm_at "go2"
  with_reducible refine nm_B F G LN.nIsi bb_isinstance ?_
  wtm_at "go2"
  with_reducible refine nm_B F G LN.nTuple bb_tuple ?_
  wtm_at "go2"
  refine r_isTup (n0 N) ?_
  wtm_at "go2"
  rw [if_neg (by decide)]
  wtm_at "go2"
  with_reducible refine nm_B F G LN.nLen bb_len ?_
  wtm_at "go2"
  refine PyProof.Rows.len_tuple (isT (n0 N)) (by simp) ?_
  wtm_at "go2"
  rw [if_neg (by simp)]
  wtm_at "go2"
  with_reducible refine r_subT (n0 N) (x := .ref 52) ?_ ?_ ?_ ?_
  · decide
  · decide
  · rfl
  wtm_at "go2"
  with_reducible refine nm_K F G LF.nUnk ?_
  refine isnot_ref_same ?_
  wtm_at "go2"
  rw [if_neg (by decide)]
  wtm_at "go2"
  with_reducible refine r_subT (n0 N) (x := .str "" u) ?_ ?_ ?_ ?_
  · decide
  · decide
  · rfl
  wtm_at "go2"
  refine ne_str ?_
  refine wpAny_truthy_bool ?_
  refine isTrue_or_nil ?_
  rw [if_neg (by decide)]
  refine wpAny_execs_nil ?_
  show wpAny _ _ (execs (b_law.drop 15) (lEnv L)) _ _ _
  refine q h₃ _ _ F ?_ (News.sub N (pm_tail pm_id)) ?_
  · intro x hx
    exact if_neg hx
  · exact Nat.le_trans hsz (Nat.le_of_lt (Heap.lt_size (n0 N)))
end
end Mine
end
-- L9
section
namespace Mine
theorem Rds.len {h : Heap} {k : Nat} {vs : List Value} {ds : List PyData} (x : Rds h k vs ds) : vs.length = ds.length := by
  obtain ⟨⟨as, r⟩, -, -⟩ := x
  induction ds generalizing vs as with
  | nil => cases r; rfl
  | cons d ds ih => cases r with | cons r1 r2 => simp [ih _ r2]
noncomputable def thD : List PyData := [.tuple [.int 0, .int 0], .tuple [.str "", .str ""], .tuple [.none, .none]]
theorem thD_at {h : Heap} {us : List Value} {t0 t1 : Tok} (e : us = [Value.int 0 t0, .str "" t1, .none]) {i : Nat} {v : Value} (hv : us[i]? = some v) : ∃ x, Rd h 1 v x ∧ thD[i]? = some (.tuple [x, x]) ∧ handedIn v = true := by
  subst e
  match i, hv with
  | 0, hv => cases hv; exact ⟨.int 0, .int 0 t0, rfl, rfl⟩
  | 1, hv => cases hv; exact ⟨.str "", .str t1 (by kernel_rfl), rfl, rfl⟩
  | 2, hv => cases hv; exact ⟨.none, .none, rfl, rfl⟩
section
variable {w : World} {A : Around} {E : Value → Shared → Prop} {K : Frag} {mg mb : Str → Option Value} {h g : Heap} {gs : Array GenState} {d : Drawn} {t : Nat} {os : OsState} {L : Addr} {m : Str → Option Value}
inductive ThJ (gs : Array GenState) (h h₃ : Heap) (tl : List (Addr × Obj)) (c₀ : Addr) (i : Nat) (m : Str → Option Value) (ys : List Value) : List (Addr × Obj) → Array GenState → Prop
  | mk (oc : Obj) (vc : Option Value) (ps' : Array Value) (own : List (Addr × Obj)) (hdc : oc.data = .cell vc) (ho : ∀ p ∈ own, h.objs.size ≤ p.1) (hoc : ∀ p ∈ own, p.1 ≠ c₀) (hcz : h₃.objs.size ≤ c₀) (hTT : TabT (own ++ tl) ps')
    (hR : ∀ h'' : Heap, (∀ p ∈ own, h''.get? p.1 = some p.2) → Rds h'' 2 ys (thD.take i)) : ThJ gs h h₃ tl c₀ i m ys ((c₀, oc) :: (211, tabObj ps') :: own) gs
set_option maxHeartbeats 2000000 in
theorem law15 (LN : LawN K) (LF : LawF K) (G : Gd K mg mb g) (am : Amb A 29) (C : CodeHd g 213 211) (B : g.BuiltinsAt mg 211) {W tl : List (Addr × Obj)} {ps : Array Value} (F : Fr g L h m) (N : News g L h ((211, tabObj ps) :: W)) (hne : ∀ p ∈ W, p.1 ≠ 211) (htl : ∀ p ∈ tl, p ∈ W) (hT : TabT tl ps) {Q : Flow → Shared → Prop}
    (q : ∀ ps' own h' t', Fr g L h' m → News g L h' ((211, tabObj ps') :: (own ++ W)) → (∀ p ∈ own, h.objs.size ≤ p.1) → TabT (own ++ tl) ps' → 
      wpAny (model PW w) A (execs (b_law.drop 16) (lEnv L)) Q E ⟨h', gs, d, t', os⟩) :
    wpAny (model PW w) A (execs (b_law.drop 15) (lEnv L)) Q E ⟨h, gs, d, t, os⟩ := by
  have z211 : 211 < h.objs.size := Heap.lt_size (n0 N)
  refine wpAny_execs_cons ?_
  wtm_at "go2"
  with_reducible refine x_LC ?_
  wtm_at "go2"
  with_reducible refine r_newTupleG F N ?_
  intro us tp h₂ hus F N l2 z2
  wtm_at "go2"
  with_reducible refine r_iterTuple F N (isTu (n0 N)) ?_
  intro it h₃ F N lit k3
  have htpi : tp < it := lit (tp, _) (.head _)
  have z3 : h.objs.size ≤ h₃.objs.size := Nat.le_trans z2 (Nat.le_of_lt (Heap.lt_size (n1 N)))
  have N := News.sub (l' := (it, tupIt tp 0) :: ([(211, tabObj ps)] ++ ((tp, tupO us) :: W))) N (pm_cons (.head _) (pm_cons (.tail _ (.tail _ (.head _))) (pm_cons (.tail _ (.head _)) (pm_tail (pm_tail (pm_tail pm_id))))))
  have h211t : (211 : Addr) ≠ tp := Nat.ne_of_lt (l2 (211, _) (.head _))
  have hneI : ∀ p ∈ [(211, tabObj ps)] ++ ((tp, tupO us) :: W), p.1 ≠ it := ne_cons (Nat.ne_of_lt (lit (211, _) (.tail _ (.head _)))) (ne_cons (Nat.ne_of_lt htpi) fun p hp => Nat.ne_of_lt (lit p (.tail _ (.tail _ hp))))
  show CompGoU PW w A (lEnv L) _ _ _ _ _ none _ _ _ _
  refine r_compFor1 (nm := "thing") (mu := [(211, tabObj ps)]) (news := (tp, tupO us) :: W) (Iter.tuple tp us.toArray) am.hd F N hneI ?_ ⟨rfl, rfl⟩
    (ThJ gs h h₃ tl)
    (fun c hc => ⟨cellO none, none, ps, [], rfl, fun zz hp => (nomatch hp), fun zz hp => (nomatch hp), hc, hT, fun zz zz => Rds.nil⟩) ?_ ?_
  · intro p hp p' hp'
    rw [List.mem_singleton.mp hp]
    rcases List.mem_cons.mp hp' with rfl | hp'
    · exact h211t
    · exact Ne.symm (hne p' hp')
  · intro g' acc D c₀ sg kN nsL hsz hDc
    refine ⟨fun i m ys nw gs h' zz k zz => isTu (k _ _ (kN _ (.head _))), ?_⟩
    intro i m ys c nw gs' h t o v hi zq11 hv _ F N hne3 hna
    obtain ⟨oc, vc, ps', own, hdc, ho, hoc, hcz, hTT, hR⟩ := zq11
    have hv : us[i]? = some v := by simpa using hv
    have hi3 : i < 3 := by
      have : us.length = 3 := by rw [hus]; rfl
      simp at hi; lia
    refine wpAny_pure ?_
    wtm_at "go2"
    have hc211 : c₀ ≠ 211 := Nat.ne_of_gt (Nat.lt_of_lt_of_le (Nat.lt_of_lt_of_le z211 z3) hcz)
    have ho211 : ∀ p ∈ own, p.1 ≠ 211 := fun p hp => Nat.ne_of_gt (Nat.lt_of_lt_of_le z211 (ho p hp))
    have N := News.sub (l' := (c₀, oc) :: (211, tabObj ps') :: (it, o) :: (acc, listOf ys.toArray c) :: own) N (pm_cons (by wtm_at "mm") (pm_cons (by wtm_at "mm") (pm_cons (by wtm_at "mm") (pm_cons (by wtm_at "mm") (pm_tail (pm_tail (pm_tail (pm_tail pm_id))))))))
    have cit : c₀ ≠ it := hne3 (c₀, oc) (.tail _ (.head _))
    have cacc : c₀ ≠ acc := hna (c₀, oc) (.head _)
    have ait : acc ≠ it := hne3 (acc, _) (.head _)
    refine r_stC F N (ne_cons (Ne.symm hc211) (ne_cons (Ne.symm cit) (ne_cons (Ne.symm cacc) hoc))) hdc ?_
    intro h₅ oc' F N hdc'
    have z5 := Nat.le_trans z3 (Nat.le_trans (Nat.le_of_eq hsz.symm) (Fr.szle F))
    have z5c : c₀ < h₅.objs.size := Heap.lt_size (n0 N)
    have z5a : acc < h₅.objs.size := Heap.lt_size (n3 N)
    have z5i : it < h₅.objs.size := Heap.lt_size (n2 N)
    refine tests_nil ?_
    rw [if_pos rfl]
    refine r_emit rfl ?_
    wtm_at "go2"
    have Gg := G.keeps sg
    with_reducible refine nm_K F Gg LF.nInfo ?_
    with_reducible refine x_cw ?_
    wtm_at "go2"
    have N := News.sub (l' := (211, tabObj ps') :: (c₀, oc') :: (it, o) :: (acc, listOf ys.toArray c) :: own) N (pm_cons (by wtm_at "mm") (pm_cons (by wtm_at "mm") (pm_cons (by wtm_at "mm") (pm_cons (by wtm_at "mm") (pm_tail (pm_tail (pm_tail (pm_tail pm_id))))))))
    have h211i : (211 : Addr) ≠ it := hneI (211, tabObj ps) (.head _)
    have h211a : acc ≠ 211 := by
      have := hna (211, tabObj ps') (.tail _ (.head _))
      exact Ne.symm this
    have eT : ∀ p ∈ own ++ tl, h₅.get? p.1 = some p.2 := by
      intro p hp
      rcases List.mem_append.mp hp with hp | hp
      · exact na N (.tail _ (.tail _ (.tail _ (.tail _ hp))))
      · exact F.keep _ _ (kN p (.tail _ (htl p hp)))
    refine r_lambda F Gg N (ne_cons hc211 (ne_cons (Ne.symm h211i) (ne_cons h211a ho211))) (C.keeps sg) (hTT h₅ eT _) (B.keeps sg) ?_
    intro f c' ctv h₆ t₆ ps2 own2 F N hf hown2 hrec hzf
    wtm_at "go2"
    have hof : ∀ p ∈ own2 ++ ((c₀, oc') :: (it, o) :: (acc, listOf ys.toArray c) :: own), p.1 < f := fun p hp => hf p (.tail _ hp)
    have hrec : ∀ h'' : Heap, (∀ p ∈ own2, h''.get? p.1 = some p.2) → (TabOk h'' ⟨183, 26, 183, 47⟩ lawQ ps' → h''.CodeRec (.ref c') lawQ) ∧ ∀ p, TabOk h'' p lawQ ps' → TabOk h'' p lawQ ps2 := hrec
    have n211 := N (211, tabObj ps2) (.tail _ (.head _))
    have f211 : f ≠ 211 := Nat.ne_of_gt (hf (211, tabObj ps2) (.head _))
    have o2211 : ∀ p ∈ own2, p.1 ≠ 211 := fun p hp => Nat.ne_of_gt (Nat.lt_of_lt_of_le z211 (Nat.le_trans z5 (hown2 p hp)))
    have hidT : ∀ p ∈ own ++ tl, (h₆.hide 211).get? p.1 = some p.2 := by
      intro p hp
      rcases List.mem_append.mp hp with hp | hp
      · exact (Heap.hide_ne h₆ (ho211 p hp)).trans (na N (.tail _ (.tail _ (List.mem_append_right _ (.tail _ (.tail _ (.tail _ hp)))))))
      · exact (Heap.hide_ne h₆ (hne p (htl p hp))).trans (F.keep _ _ (kN p (.tail _ (htl p hp))))
    have hid2 : ∀ p ∈ own2, (h₆.hide 211).get? p.1 = some p.2 := fun p hp => (Heap.hide_ne h₆ (o2211 p hp)).trans (na N (.tail _ (.tail _ (List.mem_append_left _ hp))))
    have hcd : (h₆.hide 211).CodeRec (.ref c') lawQ := (hrec _ hid2).1 (hTT _ hidT _)
    have ef := (Heap.hide_ne h₆ f211).trans (n0 N)
    have ec := (Heap.hide_ne h₆ hc211).trans (na N (.tail _ (.tail _ (List.mem_append_right _ (.head _)))))
    have Gh : Gd K mg mb (h₆.hide 211) := Gg.keeps (subHideR F.keep n211.2.2)
    refine ⟨Kp.fnK LF.tkn.info (Gg.X.keeps F.keep), ?_⟩
    show wpAny _ _ (call (.ref 59) [_, _] [("row", _)]) _ _ _
    refine info_spec LF.tkn.info (P := fun r o' => r = v ∧ o' = tabObj ps2) (n := 2) (lg := 211) Gh (am.mono (by decide)) n211.1 ?_ ?_ ?_ ?_ ?_ ?_
    · show List.Nodup [("row" : Str)]
      decide +kernel
    · simp
    · intro pm; kernel_rfl
    · intro h2 k2 A Q E s k qq
      unfold keeperOf
      refine wpAny_bind (wpAny_load (k _ _ (k2 _ _ ef)) ?_)
      exact wpAny_pure qq
    · intro A E Q h2 t2 am3 k2 sz2 e3 q2
      refine call_lam am3.room (k2 _ _ ef) (hcd.keeps k2) Gh k2 (by rw [Heap.hide_size]; exact sz2) (W := []) (fun zz hp => nomatch hp) (binds := [("at", .int 0 t), ("row", .int 1 t₆)]) (by kernel_rfl) ?_
      intro L2 h3 t3 F3 N3 lx kp hL
      refine nm_F (F3.keep _ _ ec) hdc' ?_
      exact q2 v h3 _ _ ⟨rfl, rfl⟩ (fun b o e => kp _ _ (Heap.of_hide e)) (kp _ _ e3)
    intro a r h₇ t₇ o' zq5 k7 e7 ea hza
    obtain ⟨rfl, rfl⟩ := zq5
    have K7 : Sub h₆ h₇ := fun b o e => by
      by_cases hb : b = 211
      · rw [hb] at e ⊢
        rw [n211.1] at e
        rw [← Option.some.inj e]
        exact e7
      · exact k7 b o ((Heap.hide_ne h₆ hb).trans e)
    have aD : a ≠ D ∧ g'.get? a = none := ⟨Nat.ne_of_gt (Nat.lt_of_lt_of_le (Fr.lt F) hza), none_of_size (Nat.le_trans (Fr.szle F) hza)⟩
    have N7 : News g' D h₇ ((acc, listOf ys.toArray c) :: (it, o) :: (c₀, oc') :: (211, tabObj ps2) :: (a, tupO [r, r]) :: (own2 ++ own)) := by
      have N1 := News.cons (News.keep N K7) ea aD.1 aD.2
      refine News.sub N1 ?_
      refine pm_cons ?_ (pm_cons ?_ (pm_cons ?_ (pm_cons (.tail _ (.tail _ (.head _))) (pm_cons (.head _) (pm_app ?_ ?_)))))
      · exact .tail _ (.tail _ (.tail _ (List.mem_append_right _ (.tail _ (.tail _ (.head _))))))
      · exact .tail _ (.tail _ (.tail _ (List.mem_append_right _ (.tail _ (.head _)))))
      · exact .tail _ (.tail _ (.tail _ (List.mem_append_right _ (.head _))))
      · exact fun p hp => .tail _ (.tail _ (.tail _ (List.mem_append_left _ hp)))
      · exact fun p hp => .tail _ (.tail _ (.tail _ (List.mem_append_right _ (.tail _ (.tail _ (.tail _ hp))))))
    have F7 := Fr.sub F K7
    have fz : f < h₆.objs.size := Heap.lt_size (n0 N)
    have za : ∀ b : Addr, b < h₅.objs.size → b < a := fun b hb => Nat.lt_of_lt_of_le (Nat.lt_of_lt_of_le hb (Nat.le_trans hzf (Nat.le_of_lt fz))) hza
    have zo2 : ∀ b : Addr, b < h₅.objs.size → ∀ p ∈ own2, p.1 ≠ b := fun b hb p hp => Nat.ne_of_gt (Nat.lt_of_lt_of_le hb (hown2 p hp))
    have newne : ∀ b : Addr, b < h₅.objs.size → (∀ p ∈ own, p.1 ≠ b) → ∀ p ∈ (a, tupO [r, r]) :: (own2 ++ own), p.1 ≠ b := fun b hb hob => ne_cons (Nat.ne_of_gt (za b hb)) fun p hp => (List.mem_append.mp hp).elim (zo2 b hb p) (hob p)
    have ownacc : ∀ p ∈ own, p.1 ≠ acc := fun p hp => hna p (.tail _ (.tail _ hp))
    have ownit : ∀ p ∈ own, p.1 ≠ it := fun p hp => hne3 p (.tail _ (.tail _ (.tail _ hp)))
    have hyl : ys.length = i := by
      have := hR h₇ fun p hp => na N7 (.tail _ (.tail _ (.tail _ (.tail _ (.tail _ (List.mem_append_right _ hp))))))
      rw [Rds.len this, List.length_take]
      show min i 3 = i
      lia
    with_reducible refine r_append F7 N7 ?_ ?_ ?_
    · exact ne_cons (Ne.symm ait) (ne_cons cacc (ne_cons (Ne.symm h211a) (newne acc z5a ownacc)))
    · rw [List.size_toArray, hyl, sizeLine_eq]; lia
    intro h₈ F8 N8 hsz8
    rw [List.push_toArray] at N8
    refine cnext F8 (News.swap N8) (ne_cons ait (ne_cons cit (ne_cons h211i (newne it z5i ownit)))) (ne_cons cacc (ne_cons (Ne.symm h211a) (newne acc z5a ownacc))) ⟨oc', some r, ps2, (a, tupO [r, r]) :: (own2 ++ own), hdc', ?_, newne c₀ z5c hoc, hcz, ?_, ?_⟩
    · intro p hp
      rcases List.mem_cons.mp hp with rfl | hp
      · exact Nat.le_trans z5 (Nat.le_trans (Nat.le_trans hzf (Nat.le_of_lt fz)) hza)
      rcases List.mem_append.mp hp with hp | hp
      · exact Nat.le_trans z5 (hown2 p hp)
      · exact ho p hp
    · intro h'' ko z
      refine (hrec h'' fun p hp => ko p (List.mem_append_left _ (.tail _ (List.mem_append_left _ hp)))).2 z (hTT h'' (fun p hp => ?_) z)
      rcases List.mem_append.mp hp with hp | hp
      · exact ko p (List.mem_append_left _ (.tail _ (List.mem_append_right _ hp)))
      · exact ko p (List.mem_append_right _ hp)
    · intro h'' ko
      obtain ⟨x, hx, hxd, -⟩ := thD_at (h := h'') hus hv
      rw [List.take_add_one, hxd]
      refine Rds.append (hR h'' fun p hp => ko p (.tail _ (List.mem_append_right _ hp))) ?_
      exact Rds.cons (Rd.tuple (ko _ (.head _)) (Rds.cons hx (Rds.cons hx .nil))) .nil
  · intro acc ys c c₀ nw h'' gs' t'' m' zq9 F N hne hap hac
    obtain ⟨oc, vc, ps', own, hdc, ho, hoc, hcz, hTT, hR⟩ := zq9
    wtm_at "go2"
    with_reducible refine r_newTuple F N ?_
    intro a1 h₄ F N l4 _
    wtm_at "go2"
    with_reducible refine r_newTuple F N ?_
    intro a2 h₅ F N l5 _
    wtm_at "go2"
    with_reducible refine r_newTuple F N ?_
    intro a3 h₆ F N l6 _
    wtm_at "go2"
    with_reducible refine r_newList F N ?_
    intro rr h₇ F N l7 _
    have hus3 : us.toArray.size = 3 := by rw [hus]; rfl
    rw [hus3] at hR
    have RB : Rds h₇ 2 [Value.ref a1, .ref a2, .ref a3] (thD.take 3) := by
      have k1 := na N (.tail _ (.tail _ (.tail _ (.head _))))
      have k2 := na N (.tail _ (.tail _ (.head _)))
      have k3 := na N (.tail _ (.head _))
      exact Rds.cons (Rd.tuple k1 (Rds.cons (.int _ _) (Rds.cons (.int _ _) .nil))) (Rds.cons (Rd.tuple k2 (Rds.cons (.str _ (by kernel_rfl)) (Rds.cons (.str _ (by kernel_rfl)) .nil))) (Rds.cons (Rd.tuple k3 (Rds.cons .none (Rds.cons .none .nil))) .nil))
    have RA : Rds h₇ 2 ys (thD.take 3) := hR h₇ fun p hp => na N (.tail _ (.tail _ (.tail _ (.tail _ (.tail _ (.tail _ (.tail _ (List.mem_append_left _ hp))))))))
    refine r_neSame (Rd.list (na N (.tail _ (.tail _ (.tail _ (.tail _ (.head _)))))) RA) (Rd.list (n0 N) RB) (by decide) (by have := am.un; lia) ?_
    refine wpAny_truthy_bool ?_
    rw [if_neg (by decide)]
    refine wpAny_execs_nil ?_
    show wpAny _ _ (execs (b_law.drop 16) (lEnv L)) _ _ _
    refine q ps' own h₇ _ F (News.sub N ?_) ho hTT
    refine pm_tail (pm_tail (pm_tail (pm_tail (pm_tail (pm_tail ?_)))))
    exact pm_cons (.head _) (pm_tail (pm_app (fun p hp => List.mem_append_left _ hp) fun p hp => List.mem_append_right _ (.tail _ hp)))
end
end Mine
end
-- L10
section
namespace Mine
theorem Pcs.led {O : Addr → Obj → Prop} {vs : List Value} {ps : List (Str × Str)} (x : Pcs O vs ps) : ∃ l : List (Addr × Obj), Pcs (fun a o => (a, o) ∈ l) vs ps ∧ ∀ p ∈ l, O p.1 p.2 ∧ ∃ vs, p.2 = tupO vs := by
  induction x with
  | nil => exact ⟨[], .nil, fun zz h => nomatch h⟩
  | cons a x y t u h _ ih =>
    obtain ⟨l, h1, h2⟩ := ih
    refine ⟨(a, tupO [.str x t, .str y u]) :: l, .cons a x y t u (.head _) (h1.mono fun zz zz z => .tail _ z), fun p hp => ?_⟩
    rcases List.mem_cons.mp hp with rfl | hp
    · exact ⟨h, _, rfl⟩
    · exact h2 p hp
theorem int2_at {us : List Value} {u0 u1 : Tok} {i : Nat} {v : Value} (e : us = [.int 0 u0, .int 1 u1]) (h : us[i]? = some v) (hi : i < 2) : ∃ ui, v = .int (i : Nat) ui := by
  subst e
  match i, hi, h with
  | 0, _, h => exact ⟨_, (Option.some.inj h).symm⟩
  | 1, _, h => exact ⟨_, (Option.some.inj h).symm⟩
theorem sz2_at {s0 s1 i : Nat} {u0 u1 : Tok} (hi : i < 2) : ∃ us2, [Value.int (s0 : Nat) u0, .int (s1 : Nat) u1].toArray[((i : Int)).toNat]? = some (.int ((szOf s0 s1 i : Nat) : Int) us2) := by
  match i, hi with
  | 0, _ => exact ⟨u0, rfl⟩
  | 1, _ => exact ⟨u1, rfl⟩
theorem pow2_at {i : Nat} (hi : i ≤ 3) : (1 : Int) ≤ 2 ^ i ∧ (2 : Int) ^ i ≤ 8 := by
  have h : ∀ i < 4, (1 : Int) ≤ 2 ^ i ∧ (2 : Int) ^ i ≤ 8 := by decide
  exact h i (Nat.lt_succ_of_le hi)
theorem two_of {a b v : Value} {i : Nat} (h : [a, b][i]? = some v) : v = a ∨ v = b := by
  match i, h with
  | 0, h => exact .inl (Option.some.inj h).symm
  | 1, h => exact .inr (Option.some.inj h).symm
noncomputable def PJ (head : Nat) (sz : Nat → Nat) : Nat → List Value → List (Addr × Obj) → Prop
  | 0, ys, nw => ys = [] ∧ nw = []
  | i + 1, ys, nw => ∃ ys0 nw0 p x us n own od u, PJ head sz i ys0 nw0 ∧ ys = ys0 ++ [Value.ref p] ∧ nw = (p, accO x (List.toArray us) n) :: (own ++ nw0) ∧ (∀ q ∈ own ++ nw0, q.1 ≠ p) ∧ (x, od) ∈ own ∧ IniD od (.int (head : Nat) u) ∧ Pcs (fun a o => (a, o) ∈ own) us (piecesOf i (sz i)) ∧ (∀ q ∈ own, ∀ q' ∈ nw0, q.1 ≠ q'.1)
theorem PJ.len {head : Nat} {sz : Nat → Nat} {i : Nat} : ∀ {ys : List Value} {nw : List (Addr × Obj)}, PJ head sz i ys nw → ys.length = i := by
  induction i with
  | zero => intro ys nw h; rw [h.1]; rfl
  | succ i ih =>
    intro ys nw h
    obtain ⟨ys0, h⟩ := h
    obtain ⟨nw0, h⟩ := h
    obtain ⟨p, h⟩ := h
    obtain ⟨-, -, -, -, -, -, h, e, -⟩ := h
    rw [e, List.length_append, ih h]; rfl
section
variable {w : World} {A : Around} {E : Value → Shared → Prop} {K : Frag} {mg mb : Str → Option Value} {h g : Heap} {gs : Array GenState} {d : Drawn} {t : Nat} {os : OsState} {L : Addr} {m : Str → Option Value}
set_option maxHeartbeats 2000000 in
theorem law16 (LN : LawN K) (LF : LawF K) (G : Gd K mg mb g) (am : Amb A 29) {W : List (Addr × Obj)} {o2 o3 : Obj} {sl : Addr} {cs s0 s1 head : Nat} {u0 u1 uh : Tok} (F : Fr g L h m) (N : News g L h W)
    (h3 : (cH L, o3) ∈ W) (e3 : o3.data = .cell (some (.int (head : Nat) uh))) (h2 : (L + 1 + 1, o2) ∈ W) (e2 : o2.data = .cell (some (.ref sl))) (hsl : (sl, listOf [Value.int (s0 : Nat) u0, .int (s1 : Nat) u1].toArray cs) ∈ W) (a1 : s0 ≤ 9) (a3 : s1 ≤ 9) {Q : Flow → Shared → Prop}
    (q : ∀ pl ys c nw h' t' m', PJ head (szOf s0 s1) 2 ys nw → Fr g L h' m' → (∀ x : Str, x ≠ "piles" → m' x = m x) → m' "piles" = some (.ref pl) → News g L h' ((pl, listOf (List.toArray ys) c) :: (nw ++ W)) → (∀ p ∈ nw ++ W, p.1 ≠ pl) → (∀ p ∈ nw, ∀ p' ∈ W, p.1 ≠ p'.1) → 
      wpAny (model PW w) A (execs (b_law.drop 17) (lEnv L)) Q E ⟨h', gs, d, t', os⟩) :
    wpAny (model PW w) A (execs (b_law.drop 16) (lEnv L)) Q E ⟨h, gs, d, t, os⟩ := by
  refine wpAny_execs_cons ?_
  refine x_AssLC ?_
  wtm_at "go2"
  with_reducible refine r_newTupleG F N ?_
  intro us tp h₂ hus F N l2 z2
  wtm_at "go2"
  with_reducible refine r_iterTuple F N (isTu (n0 N)) ?_
  intro it h₃ F N lit k3
  refine r_compForM (mu := []) (news := (tp, tupO us) :: W) (Iter.tuple tp us.toArray) am.hd F N (fun p hp => Nat.ne_of_lt (lit p hp)) (fun zz hp => nomatch hp) ⟨rfl, rfl⟩
    (fun i m ys nw gs' => Gs gs (PJ head (szOf s0 s1) i ys nw) gs') ⟨rfl, rfl⟩ ?_ ?_
  · intro g' acc D sg kN nsL hsz
    refine ⟨fun i m ys nw gs h' zz k zz => isTu (k _ _ (kN _ (.head _))), ?_⟩
    intro i m ys c nw gs' h t o v hi zq11 hv _ F N hne hna
    obtain ⟨hJ⟩ := zq11
    have hv : us[i]? = some v := by simpa using hv
    have hi2 : i < 2 := by
      have : us.length = 2 := by rw [hus]; rfl
      simp at hi; lia
    obtain ⟨ui, rfl⟩ : ∃ ui, v = .int (i : Nat) ui := int2_at hus hv hi2
    have Gg := G.keeps sg
    refine wpAny_pure ?_
    wtm_at "go2"
    wtm_at "sts"
    intro h₅ F N
    refine tests_nil ?_
    rw [if_pos rfl]
    refine r_emit rfl ?_
    wtm_at "go2"
    with_reducible refine nm_K F Gg LF.nPile ?_
    wtm_at "go2"
    refine nm_C (F.keep _ _ (kN _ (.tail _ h3))) e3 ?_
    wtm_at "go2"
    with_reducible refine nm_K F Gg LF.nPieces ?_
    wtm_at "go2"
    refine nm_C (F.keep _ _ (kN _ (.tail _ h2))) e2 ?_
    wtm_at "go2"
    have es := F.keep _ _ (kN _ (.tail _ hsl))
    obtain ⟨us2, hs2⟩ : ∃ us2, [Value.int (s0 : Nat) u0, .int (s1 : Nat) u1].toArray[((i : Int)).toNat]? = some (.int ((szOf s0 s1 i : Nat) : Int) us2) := sz2_at hi2
    with_reducible refine r_subL es (x := .int ((szOf s0 s1 i : Nat) : Int) us2) ?_ ?_ hs2 ?_
    · lia
    · lia
    wtm_at "go2"
    refine ⟨Kp.fnK LF.pieces (Gg.X.keeps F.keep), ?_⟩
    have hsz9 : szOf s0 s1 i ≤ 9 := by unfold szOf; split <;> assumption
    refine pieces_spec LF.pieces LN.nRange (Gg.keeps F.keep) (fun zz zz e => e) (Nat.le_refl _) (am.mono (by decide)) i hi2 _ hsz9 _ _ ?_
    intro l h₆ t₆ pv pc k6 hl6 zl6 el hP
    have F := Fr.sub F k6
    have N := News.keep N k6
    wtm_at "go2"
    refine ⟨Kp.fnK LF.pile (Gg.X.keeps F.keep), ?_⟩
    have hpl := Pcs.length hP
    have hpl9 : pv.length ≤ 9 := by rw [hpl]; simp [piecesOf]; exact hsz9
    refine pile_spec LF.tkn.meth LF.pile LF.nAcc (Gg.keeps F.keep) (am.mono (by decide)) el (hP.mono fun a o z => z.1) (by rw [sizeLine_eq]; lia) ?_
    intro p x h₇ t₇ n od us7 k7 zp zx I hi7 hP7
    obtain ⟨lp, hlp, hlp2⟩ := Pcs.led hP7
    have F7 : Fr g' D h₇ _ := Fr.sub F k7
    have hDlt := Fr.lt F
    have eDn : h₆.get? D ≠ none := by
      obtain ⟨oD, es, ep, eD, r⟩ := F.ns
      have eD' : h₆.get? D = some oD := eD
      rw [eD']; intro z; cases z
    have gn : ∀ a, h₆.get? a = none → a ≠ D ∧ g'.get? a = none := by
      intro a ha
      constructor
      · intro e
        rw [e] at ha
        exact eDn ha
      · cases z : g'.get? a with
        | none => rfl
        | some o => have := F.keep _ _ z; rw [ha] at this; cases this
    have np : h₆.get? p = none := none_of_size zp
    have nx : h₆.get? x = none := none_of_size zx
    have nl : ∀ q ∈ lp, h₆.get? q.1 = none := fun q hq => (hlp2 q hq).1.2
    have N7 : News g' D h₇ ((p, accO x us7.toArray n) :: (x, od) :: (lp ++ ((it, o) :: (acc, listOf ys.toArray c) :: nw))) := by
      intro q hq
      rcases List.mem_cons.mp hq with rfl | hq
      · exact ⟨I.at_, gn _ np⟩
      rcases List.mem_cons.mp hq with rfl | hq
      · exact ⟨I.dict, gn _ nx⟩
      rcases List.mem_append.mp hq with hq | hq
      · exact ⟨(hlp2 q hq).1.1, gn _ (nl q hq)⟩
      · exact ⟨k7 _ _ (N q hq).1, (N q hq).2⟩
    have old : ∀ q ∈ (it, o) :: (acc, listOf ys.toArray c) :: nw, ∀ a, h₆.get? a = none → a ≠ q.1 := fun q hq a ha e => by
      have := (N q hq).1
      rw [← e, ha] at this; cases this
    have nxp : x ≠ p := by
      obtain ⟨hsh, tk, k, rfl⟩ := hi7
      exact ne_of_get I.dict I.at_ (by intro e; cases e)
    have nlp : ∀ q ∈ lp, q.1 ≠ p := fun q hq => by
      obtain ⟨⟨e1, -⟩, vs, e2⟩ := hlp2 q hq
      exact ne_of_get e1 I.at_ (by rw [e2]; intro e; cases e)
    have newacc : ∀ a, h₆.get? a = none → a ≠ acc := fun a ha => old (acc, _) (.tail _ (.head _)) a ha
    have newit : ∀ a, h₆.get? a = none → a ≠ it := fun a ha => old (it, _) (.head _) a ha
    have N8 := News.sub (l' := (acc, listOf ys.toArray c) :: (it, o) :: (p, accO x us7.toArray n) :: (((x, od) :: lp) ++ nw)) N7 (by
      refine pm_cons (.tail _ (.tail _ (List.mem_append_right _ (.tail _ (.head _))))) (pm_cons (.tail _ (.tail _ (List.mem_append_right _ (.head _)))) (pm_cons (.head _) (pm_cons (.tail _ (.head _)) (pm_app ?_ ?_))))
      · exact fun q hq => .tail _ (.tail _ (List.mem_append_left _ hq))
      · exact fun q hq => .tail _ (.tail _ (List.mem_append_right _ (.tail _ (.tail _ hq)))))
    have fin : ∀ b, (∀ a, h₆.get? a = none → a ≠ b) → (∀ q ∈ nw, q.1 ≠ b) → ∀ q ∈ (p, accO x us7.toArray n) :: (((x, od) :: lp) ++ nw), q.1 ≠ b := fun b h1 h2 =>
      ne_cons (h1 p np) (ne_cons (h1 x nx) fun q hq => (List.mem_append.mp hq).elim (fun hq => h1 _ (nl q hq)) (h2 q))
    have ait : acc ≠ it := hne (acc, _) (.head _)
    have hyl := PJ.len hJ
    wtm_at "go2"
    with_reducible refine r_append F7 N8 ?_ ?_ ?_
    · exact ne_cons (Ne.symm ait) (fin acc newacc fun q hq => hna q hq)
    · rw [List.size_toArray, hyl, sizeLine_eq]; lia
    intro h₈ F8 N8 hsz8
    rw [List.push_toArray] at N8
    refine cnext F8 (News.swap N8) (ne_cons ait (fin it newit fun q hq => hne q (.tail _ hq))) (fin acc newacc fun q hq => hna q hq) ⟨ys, nw, p, x, us7, n, (x, od) :: lp, od, _, hJ, rfl, rfl, ?_, .head _, hi7, hlp.mono fun zz zz z => .tail _ z, ?_⟩
    · exact ne_cons nxp fun q hq => (List.mem_append.mp hq).elim (nlp q) fun hq => Ne.symm (old q (.tail _ (.tail _ hq)) p np)
    · intro q hq q' hq'
      rcases List.mem_cons.mp hq with rfl | hq
      · exact old q' (.tail _ (.tail _ hq')) x nx
      · exact old q' (.tail _ (.tail _ hq')) q.1 (nl q hq)
  · intro acc ys c nw h'' gs' t'' m' zq8 F N hne hap hac
    obtain ⟨hJ⟩ := zq8
    have hus2 : us.toArray.size = 2 := by rw [hus]; rfl
    rw [hus2] at hJ
    refine q acc ys c nw h'' _ _ hJ F ?_ (by with_unfolding_all rfl) (News.sub N (pm_cons (.head _) (pm_tail (pm_app (fun p hp => List.mem_append_left _ hp) fun p hp => List.mem_append_right _ (.tail _ hp))))) (fun p hp => ?_) fun p hp p' hp' => hap p hp p' (.tail _ hp')
    · intro x hx
      exact if_neg hx
    · rcases List.mem_append.mp hp with hp | hp
      · exact hne p (List.mem_append_left _ hp)
      · exact hne p (List.mem_append_right _ (.tail _ hp))
set_option maxHeartbeats 2000000 in
theorem law17 (LF : LawF K) (G : Gd K mg mb g) (am : Amb A 29) {W : List (Addr × Obj)} {o3 : Obj} {head : Nat} {uh : Tok} (F : Fr g L h m) (N : News g L h W)
    (h3 : (cH L, o3) ∈ W) (e3 : o3.data = .cell (some (.int (head : Nat) uh))) {Q : Flow → Shared → Prop}
    (q : ∀ p x n od u h' t' m', Fr g L h' m' → (∀ y : Str, y ≠ "third" → m' y = m y) → m' "third" = some (.ref p) → News g L h' ((p, accO x [].toArray n) :: (x, od) :: W) → (∀ q ∈ W, q.1 < p) → (∀ q ∈ W, q.1 < x) → x ≠ p → IniD od (.int (head : Nat) u) →
      wpAny (model PW w) A (execs (b_law.drop 18) (lEnv L)) Q E ⟨h', gs, d, t', os⟩) :
    wpAny (model PW w) A (execs (b_law.drop 17) (lEnv L)) Q E ⟨h, gs, d, t, os⟩ := by
  refine wpAny_execs_cons ?_
  wtm_at "go2"
  with_reducible refine nm_K F G LF.nPile ?_
  wtm_at "go2"
  refine nm_C (na N h3) e3 ?_
  wtm_at "go2"
  with_reducible refine r_newList F N ?_
  intro l h₂ F N l2 z2
  wtm_at "go2"
  refine ⟨Kp.fnK LF.pile (G.X.keeps F.keep), ?_⟩
  refine pile_spec LF.tkn.meth LF.pile LF.nAcc (G.keeps F.keep) (am.mono (by decide)) (n0 N) Pcs.nil (by rw [sizeLine_eq]; decide) ?_
  intro p x h₃ t₃ n od us k3 zp zx I hi hP
  have hus : us = [] := by cases hP; rfl
  subst hus
  have N3 : News g L h₃ _ := News.keep N k3
  have gn : ∀ a, h₂.objs.size ≤ a → a ≠ L ∧ g.get? a = none := fun a ha => ⟨Nat.ne_of_gt (Nat.lt_of_lt_of_le (Fr.lt F) ha), none_of_size (Nat.le_trans (Fr.szle F) ha)⟩
  have nxp : x ≠ p := by
    obtain ⟨hsh, tk, k, rfl⟩ := hi
    exact ne_of_get I.dict I.at_ (by intro e; cases e)
  have zW : ∀ q ∈ W, q.1 < h₂.objs.size := fun q hq => Heap.lt_size (na N (.tail _ hq))
  have N3 := News.cons (News.cons (News.sub N3 (pm_tail pm_id)) I.dict (gn x zx).1 (gn x zx).2) I.at_ (gn p zp).1 (gn p zp).2
  have F := Fr.sub F k3
  have N := N3
  wtm_at "sts"
  intro h₄ F N
  show wpAny _ _ (execs (b_law.drop 18) (lEnv L)) _ _ _
  refine q p x n od _ h₄ _ _ F (fun y hy => if_neg hy) (by with_unfolding_all rfl) N (fun q hq => Nat.lt_of_lt_of_le (zW q hq) zp) (fun q hq => Nat.lt_of_lt_of_le (zW q hq) zx) nxp hi
end
end Mine
end
-- P1
section
namespace Mine
/-! the search, over a row whose keys rise -/
theorem bis_spec (go : Nat → Bool) (hi₀ : Nat) (hmono : ∀ i j, i ≤ j → j < hi₀ → go i = true → go j = true) : ∀ (n lo hi : Nat), lo ≤ hi → hi ≤ hi₀ → hi - lo ≤ n →
    lo ≤ (bis go n lo hi).1 ∧ (bis go n lo hi).1 ≤ hi ∧ (∀ i, lo ≤ i → i < (bis go n lo hi).1 → go i = false) ∧ (∀ i, (bis go n lo hi).1 ≤ i → i < hi → go i = true)
  | 0, lo, hi, h1, h2, h3 => by
    have : lo = hi := Nat.le_antisymm h1 (lo_add h3)
    subst this
    exact ⟨Nat.le_refl _, Nat.le_refl _, fun i a b => absurd b (Nat.not_lt.mpr a), fun i a b => absurd b (Nat.not_lt.mpr a)⟩
  | n + 1, lo, hi, h1, h2, h3 => by
    simp only [bis]
    by_cases hlt : lo < hi
    · rw [if_pos hlt]
      have hm1 := mid1 (Nat.le_of_lt hlt)
      have hm2 := mid2 hlt
      generalize (lo + hi) / 2 = md at hm1 hm2
      by_cases hg : go md = true
      · rw [if_pos hg]
        obtain ⟨a1, a2, a3, a4⟩ := bis_spec go hi₀ hmono n lo md hm1 (Nat.le_trans (Nat.le_of_lt hm2) h2) (hf_l hm2 h3)
        refine ⟨a1, Nat.le_trans a2 (Nat.le_of_lt hm2), a3, fun i b1 b2 => ?_⟩
        rcases Nat.lt_or_ge i md with h | h
        · exact a4 i b1 h
        · exact hmono md i h (Nat.lt_of_lt_of_le b2 h2) hg
      · rw [if_neg hg]
        obtain ⟨a1, a2, a3, a4⟩ := bis_spec go hi₀ hmono n (md + 1) hi hm2 h2 (hf_r hm1 h3)
        refine ⟨Nat.le_trans (Nat.le_succ_of_le hm1) a1, a2, fun i b1 b2 => ?_, a4⟩
        rcases Nat.lt_or_ge md i with h | h
        · exact a3 i h b2
        · have : go i = true → False := fun hi' => hg (hmono i md h (Nat.lt_of_lt_of_le hm2 h2) hi')
          cases hgi : go i with
          | false => rfl
          | true => exact (this hgi).elim
    · rw [if_neg hlt]
      have : lo = hi := Nat.le_antisymm h1 (Nat.le_of_not_lt hlt)
      subst this
      exact ⟨Nat.le_refl _, Nat.le_refl _, fun i a b => absurd b (Nat.not_lt.mpr a), fun i a b => absurd b (Nat.not_lt.mpr a)⟩
theorem bis_asked (go : Nat → Bool) : ∀ (n lo hi : Nat), (∀ i ∈ (bis go n lo hi).2, lo ≤ i ∧ i < hi) ∧ (bis go n lo hi).2.Nodup
  | 0, lo, hi => by simp [bis]
  | n + 1, lo, hi => by
    simp only [bis]
    by_cases hlt : lo < hi
    · rw [if_pos hlt]
      have hm1 := mid1 (Nat.le_of_lt hlt)
      have hm2 := mid2 hlt
      generalize (lo + hi) / 2 = md at hm1 hm2
      by_cases hg : go md = true
      · rw [if_pos hg]
        obtain ⟨a1, a2⟩ := bis_asked go n lo md
        refine ⟨fun i hi' => ?_, List.nodup_cons.mpr ⟨fun hm => ?_, a2⟩⟩
        · rcases List.mem_cons.mp hi' with rfl | h
          · exact ⟨hm1, hm2⟩
          · exact ⟨(a1 i h).1, Nat.lt_trans (a1 i h).2 hm2⟩
        · exact Nat.lt_irrefl _ (a1 md hm).2
      · rw [if_neg hg]
        obtain ⟨a1, a2⟩ := bis_asked go n (md + 1) hi
        refine ⟨fun i hi' => ?_, List.nodup_cons.mpr ⟨fun hm => ?_, a2⟩⟩
        · rcases List.mem_cons.mp hi' with rfl | h
          · exact ⟨hm1, hm2⟩
          · exact ⟨Nat.le_trans (Nat.le_succ_of_le hm1) (a1 i h).1, (a1 i h).2⟩
        · exact Nat.not_succ_le_self _ (a1 md hm).1
    · rw [if_neg hlt]
      simp
theorem bis_count (go : Nat → Bool) : ∀ (k n lo hi : Nat), hi + 1 = lo + 2 ^ k → hi - lo ≤ n → (bis go n lo hi).2.length = k
  | 0, 0, lo, hi, h1, h2 => rfl
  | 0, n + 1, lo, hi, h1, h2 => by
    simp only [bis]
    rw [if_neg (Nat.not_lt.mpr (Nat.le_of_eq (Nat.succ.inj h1)))]
    rfl
  | k + 1, n, lo, hi, h1, h2 => by
    obtain ⟨a, ha⟩ : ∃ a, 2 ^ k = a + 1 := ⟨2 ^ k - 1, (Nat.sub_add_cancel Nat.one_le_two_pow).symm⟩
    have hh : hi = lo + (a + a) + 1 := by rw [Nat.pow_succ, Nat.mul_two, ha] at h1; lia
    have g1 : lo + a < hi := by rw [hh]; lia
    have hmd : (lo + hi) / 2 = lo + a := by rw [hh]; lia
    have g2 := Nat.lt_of_le_of_lt (Nat.le_add_right lo a) g1
    cases n with
    | zero => exact absurd g2 (Nat.not_lt.mpr (lo_add h2))
    | succ n =>
      simp only [bis]
      rw [if_pos g2, hmd]
      by_cases hg : go (lo + a) = true
      · rw [if_pos hg]
        rw [List.length_cons, bis_count go k n lo (lo + a) (by rw [ha]; rfl) (hf_l g1 h2)]
      · rw [if_neg hg]
        rw [List.length_cons, bis_count go k n (lo + a + 1) hi (by rw [hh, ha]; lia) (hf_r (Nat.le_add_right lo a) h2)]
end Mine
end
-- P2
section
namespace Mine
noncomputable abbrev Tag := Nat × Nat
noncomputable def seg (r a b : Nat) : List Tag := (List.range' a (b - a)).map fun i => (r, i)
theorem seg_lt {a b i : Nat} (h1 : a ≤ i) (h2 : i < a + (b - a)) : i < b := by
  rcases Nat.le_total a b with h | h
  · rwa [Nat.add_sub_of_le h] at h2
  · rw [Nat.sub_eq_zero_of_le h] at h2; exact absurd h2 (Nat.not_lt.mpr h1)
theorem lt_seg {a b i : Nat} (h1 : a ≤ i) (h2 : i < b) : i < a + (b - a) := (Nat.add_sub_of_le (Nat.le_trans h1 (Nat.le_of_lt h2))).symm ▸ h2
theorem mem_seg {r a b : Nat} {x : Tag} : x ∈ seg r a b ↔ x.1 = r ∧ a ≤ x.2 ∧ x.2 < b := by
  unfold seg
  rw [List.mem_map]
  constructor
  · rintro ⟨i, hi, rfl⟩
    rw [List.mem_range'_1] at hi
    exact ⟨rfl, hi.1, seg_lt hi.1 hi.2⟩
  · rintro ⟨h1, h2, h3⟩
    exact ⟨x.2, by rw [List.mem_range'_1]; exact ⟨h2, lt_seg h2 h3⟩, by rw [← h1]⟩
noncomputable def bnd (p q : Nat) : Nat := if min p q = 0 then 0 else min p q * (Nat.log2 (max p q / min p q) + 1) + max p q / 2 ^ Nat.log2 (max p q / min p q) - 1
noncomputable def costOk (p q : Nat) : Bool := (1 + bnd p (q - 2 ^ Nat.log2 (q / p)) ≤ bnd p q) && (List.range 10).all fun b => !(decide (q - 2 ^ Nat.log2 (q / p) + 1 ≤ b) && decide (b ≤ q)) || decide (Nat.log2 (q / p) + 1 + bnd (p - 1) b ≤ bnd p q)
theorem cost_all : ((List.range 10).all fun p => (List.range 10).all fun q => decide (p = 0) || decide (q < p) || costOk p q) = true := by decide +kernel
theorem cost1 {p q : Nat} (h1 : 1 ≤ p) (h2 : p ≤ q) (h3 : q ≤ 9) : 1 + bnd p (q - 2 ^ Nat.log2 (q / p)) ≤ bnd p q ∧ ∀ b, q - 2 ^ Nat.log2 (q / p) + 1 ≤ b → b ≤ q → Nat.log2 (q / p) + 1 + bnd (p - 1) b ≤ bnd p q := by
  have a1 := List.all_eq_true.mp (List.all_eq_true.mp cost_all p (List.mem_range.mpr (by lia))) q (List.mem_range.mpr (by lia))
  have hp0 : decide (p = 0) = false := decide_eq_false (by lia)
  have hq0 : decide (q < p) = false := decide_eq_false (by lia)
  rw [hp0, hq0, Bool.false_or, Bool.false_or] at a1
  unfold costOk at a1
  rw [Bool.and_eq_true] at a1
  refine ⟨of_decide_eq_true a1.1, fun b hb1 hb2 => ?_⟩
  have a2 := List.all_eq_true.mp a1.2 b (List.mem_range.mpr (by lia))
  rw [decide_eq_true hb1, decide_eq_true hb2] at a2
  simpa using a2
theorem bnd_comm (p q : Nat) : bnd p q = bnd q p := by unfold bnd; rw [Nat.min_comm, Nat.max_comm]
section
variable (k0 k1 : Nat → Int)
noncomputable def keyT (x : Tag) : Int := if x.1 = 0 then k0 x.2 else k1 x.2
noncomputable def bef (x y : Tag) : Prop := keyT k0 k1 x < keyT k0 k1 y ∨ (keyT k0 k1 x = keyT k0 k1 y ∧ (x.1 < y.1 ∨ (x.1 = y.1 ∧ x.2 < y.2)))
theorem bef_irr (a : Tag) : ¬ bef k0 k1 a a := by unfold bef; lia
noncomputable def stepP (p q : Nat) : (Nat × Nat) × List Tag × List Tag :=
  if p ≤ q then
    (if goOf 0 k1 (k0 (p - 1)) (q - 2 ^ Nat.log2 (q / p)) = true then ((p, q - 2 ^ Nat.log2 (q / p)), seg 1 (q - 2 ^ Nat.log2 (q / p)) q, [(p - 1, q - 2 ^ Nat.log2 (q / p))])
    else ((p - 1, (bis (goOf 0 k1 (k0 (p - 1))) (q - (q - 2 ^ Nat.log2 (q / p) + 1)) (q - 2 ^ Nat.log2 (q / p) + 1) q).1),
      (0, p - 1) :: seg 1 (bis (goOf 0 k1 (k0 (p - 1))) (q - (q - 2 ^ Nat.log2 (q / p) + 1)) (q - 2 ^ Nat.log2 (q / p) + 1) q).1 q,
      (p - 1, q - 2 ^ Nat.log2 (q / p)) :: (bis (goOf 0 k1 (k0 (p - 1))) (q - (q - 2 ^ Nat.log2 (q / p) + 1)) (q - 2 ^ Nat.log2 (q / p) + 1) q).2.map fun i => (p - 1, i)))
  else
    (if goOf 1 k0 (k1 (q - 1)) (p - 2 ^ Nat.log2 (p / q)) = true then ((p - 2 ^ Nat.log2 (p / q), q), seg 0 (p - 2 ^ Nat.log2 (p / q)) p, [(p - 2 ^ Nat.log2 (p / q), q - 1)])
    else (((bis (goOf 1 k0 (k1 (q - 1))) (p - (p - 2 ^ Nat.log2 (p / q) + 1)) (p - 2 ^ Nat.log2 (p / q) + 1) p).1, q - 1),
      (1, q - 1) :: seg 0 (bis (goOf 1 k0 (k1 (q - 1))) (p - (p - 2 ^ Nat.log2 (p / q) + 1)) (p - 2 ^ Nat.log2 (p / q) + 1) p).1 p,
      (p - 2 ^ Nat.log2 (p / q), q - 1) :: (bis (goOf 1 k0 (k1 (q - 1))) (p - (p - 2 ^ Nat.log2 (p / q) + 1)) (p - 2 ^ Nat.log2 (p / q) + 1) p).2.map fun i => (i, q - 1)))
structure Inv (m n p q : Nat) (tags looks : List Tag) : Prop where
  hp : p ≤ m
  hq : q ≤ n
  mem : ∀ x, x ∈ tags ↔ (x.1 = 0 ∧ p ≤ x.2 ∧ x.2 < m) ∨ (x.1 = 1 ∧ q ≤ x.2 ∧ x.2 < n)
  ord : tags.Pairwise (bef k0 k1)
  c1 : ∀ i j, i < p → q ≤ j → j < n → k0 i ≤ k1 j
  c2 : ∀ i j, p ≤ i → i < m → j < q → k1 j < k0 i
  nodup : looks.Nodup
  lb : ∀ x ∈ looks, (p ≤ x.1 ∨ q ≤ x.2) ∧ x.1 < m ∧ x.2 < n
  cnt : looks.length + bnd p q ≤ bnd m n
variable {k0 k1} {m n : Nat}
theorem seg_ord {r a b : Nat} (h : ∀ i j, a ≤ i → i < j → j < b → keyT k0 k1 (r, i) ≤ keyT k0 k1 (r, j)) : (seg r a b).Pairwise (bef k0 k1) := by
  unfold seg
  rw [List.pairwise_map]
  refine List.Pairwise.imp_of_mem ?_ (List.pairwise_lt_range' (s := a) (n := b - a) (step := 1))
  intro i j hi hj hij
  rw [List.mem_range'_1] at hi hj
  exact (Int.lt_or_eq_of_le (h i j hi.1 hij (seg_lt hj.1 hj.2))).imp id fun e => ⟨e, .inr ⟨rfl, hij⟩⟩
theorem bef00 {i j : Nat} (h : k0 i ≤ k0 j) (l : i < j) : bef k0 k1 (0, i) (0, j) := (Int.lt_or_eq_of_le h).imp id fun e => ⟨e, .inr ⟨rfl, l⟩⟩
theorem bef11 {i j : Nat} (h : k1 i ≤ k1 j) (l : i < j) : bef k0 k1 (1, i) (1, j) := (Int.lt_or_eq_of_le h).imp id fun e => ⟨e, .inr ⟨rfl, l⟩⟩
theorem bef01 {i j : Nat} (h : k0 i ≤ k1 j) : bef k0 k1 (0, i) (1, j) := (Int.lt_or_eq_of_le h).imp id fun e => ⟨e, .inl Nat.zero_lt_one⟩
theorem bef10 {i j : Nat} (h : k1 j < k0 i) : bef k0 k1 (1, j) (0, i) := .inl h
theorem Inv.rem (hk0 : ∀ i j, i ≤ j → j < m → k0 i ≤ k0 j) (hk1 : ∀ i j, i ≤ j → j < n → k1 i ≤ k1 j) {p q : Nat} {tags looks : List Tag} (I : Inv k0 k1 m n p q tags looks) {x y : Tag} (hx : (x.1 = 0 ∧ x.2 < p) ∨ (x.1 = 1 ∧ x.2 < q)) (hy : y ∈ tags) : bef k0 k1 x y := by
  obtain ⟨x1, x2⟩ := x
  obtain ⟨y1, y2⟩ := y
  have := (I.mem _).mp hy
  dsimp only at hx this
  rcases hx with ⟨rfl, hx⟩ | ⟨rfl, hx⟩ <;> rcases this with ⟨rfl, hy1, hy2⟩ | ⟨rfl, hy1, hy2⟩
  · exact bef00 (hk0 x2 y2 (Nat.le_of_lt (Nat.lt_of_lt_of_le hx hy1)) hy2) (Nat.lt_of_lt_of_le hx hy1)
  · exact bef01 (I.c1 x2 y2 hx hy1 hy2)
  · exact bef10 (I.c2 y2 x2 hy1 hy2 hx)
  · exact bef11 (hk1 x2 y2 (Nat.le_of_lt (Nat.lt_of_lt_of_le hx hy1)) hy2) (Nat.lt_of_lt_of_le hx hy1)
end
end Mine
end
-- P3
section
namespace Mine
section
variable {k0 k1 : Nat → Int} {m n : Nat}
theorem nodup_new {looks new : List Tag} {p q : Nat} (h : looks.Nodup) (lb : ∀ x ∈ looks, p ≤ x.1 ∨ q ≤ x.2) (hn : new.Nodup) (hb : ∀ x ∈ new, x.1 < p ∧ x.2 < q) : (looks ++ new).Nodup := by
  rw [List.nodup_append]
  refine ⟨h, hn, fun a ha b hb' e => ?_⟩
  subst e
  have h2 := hb a hb'
  exact (lb a ha).elim (Nat.not_le.mpr h2.1) (Nat.not_le.mpr h2.2)
theorem map_nodup {l : List Nat} (h : l.Nodup) {f : Nat → Tag} (hf : ∀ a b, f a = f b → a = b) : (l.map f).Nodup := by
  unfold List.Nodup at *
  rw [List.pairwise_map]
  exact h.imp fun hab e => hab (hf _ _ e)
theorem seg_join {x : Tag} {p p' m q q' n : Nat} (hp : p ≤ m) (hq : q ≤ n) (h1 : p' ≤ p) (h2 : q' ≤ q) : ((x.1 = 0 ∧ p' ≤ x.2 ∧ x.2 < p) ∨ (x.1 = 1 ∧ q' ≤ x.2 ∧ x.2 < q)) ∨ ((x.1 = 0 ∧ p ≤ x.2 ∧ x.2 < m) ∨ (x.1 = 1 ∧ q ≤ x.2 ∧ x.2 < n)) ↔ (x.1 = 0 ∧ p' ≤ x.2 ∧ x.2 < m) ∨ (x.1 = 1 ∧ q' ≤ x.2 ∧ x.2 < n) := by
  constructor
  · rintro ((⟨a, b, c⟩ | ⟨a, b, c⟩) | ⟨a, b, c⟩ | ⟨a, b, c⟩)
    · exact .inl ⟨a, b, Nat.lt_of_lt_of_le c hp⟩
    · exact .inr ⟨a, b, Nat.lt_of_lt_of_le c hq⟩
    · exact .inl ⟨a, Nat.le_trans h1 b, c⟩
    · exact .inr ⟨a, Nat.le_trans h2 b, c⟩
  · rintro (⟨a, b, c⟩ | ⟨a, b, c⟩)
    · exact (Nat.lt_or_ge x.2 p).elim (fun h => .inl (.inl ⟨a, b, h⟩)) fun h => .inr (.inl ⟨a, h, c⟩)
    · exact (Nat.lt_or_ge x.2 q).elim (fun h => .inl (.inr ⟨a, b, h⟩)) fun h => .inr (.inr ⟨a, h, c⟩)
theorem step_inv (hk0 : ∀ i j, i ≤ j → j < m → k0 i ≤ k0 j) (hk1 : ∀ i j, i ≤ j → j < n → k1 i ≤ k1 j) {p q : Nat} {tags looks : List Tag} (I : Inv k0 k1 m n p q tags looks) (hp1 : 1 ≤ p) (hq1 : 1 ≤ q) (hm : m ≤ 9) (hn : n ≤ 9) :
    Inv k0 k1 m n (stepP k0 k1 p q).1.1 (stepP k0 k1 p q).1.2 ((stepP k0 k1 p q).2.1 ++ tags) (looks ++ (stepP k0 k1 p q).2.2) ∧ (stepP k0 k1 p q).1.1 + (stepP k0 k1 p q).1.2 < p + q := by
  have hp := I.hp
  have hq := I.hq
  have mk : ∀ {p' q' : Nat} {T new : List Tag}, p' ≤ p → q' ≤ q → (∀ x, x ∈ T ↔ (x.1 = 0 ∧ p' ≤ x.2 ∧ x.2 < p) ∨ (x.1 = 1 ∧ q' ≤ x.2 ∧ x.2 < q)) → T.Pairwise (bef k0 k1) →
      (∀ i j, i < p' → q' ≤ j → j < q → k0 i ≤ k1 j) → (∀ i j, p' ≤ i → i < p → j < q' → k1 j < k0 i) → new.Nodup → (∀ x ∈ new, x.1 < p ∧ x.2 < q ∧ (p' ≤ x.1 ∨ q' ≤ x.2)) → new.length + bnd p' q' ≤ bnd p q →
      Inv k0 k1 m n p' q' (T ++ tags) (looks ++ new) := by
    intro p' q' T new h1 h2 hT oT d1 d2 hnn hnb hc
    refine ⟨Nat.le_trans h1 hp, Nat.le_trans h2 hq, fun x => ?_, ?_, fun i j a b c => ?_, fun i j a b c => ?_, nodup_new I.nodup (fun x hx => (I.lb x hx).1) hnn (fun x hx => ⟨(hnb x hx).1, (hnb x hx).2.1⟩), fun x hx => ?_, ?_⟩
    · rw [List.mem_append, hT, I.mem]
      exact seg_join hp hq h1 h2
    · rw [List.pairwise_append]
      exact ⟨oT, I.ord, fun x hx y hy => I.rem hk0 hk1 (((hT x).mp hx).imp (fun h => ⟨h.1, h.2.2⟩) fun h => ⟨h.1, h.2.2⟩) hy⟩
    · exact (Nat.lt_or_ge j q).elim (d1 i j a b) fun h => I.c1 i j (Nat.lt_of_lt_of_le a h1) h c
    · exact (Nat.lt_or_ge i p).elim (fun h => d2 i j a h c) fun h => I.c2 i j h b (Nat.lt_of_lt_of_le c h2)
    · rcases List.mem_append.mp hx with hx | hx
      · exact ⟨(I.lb x hx).1.imp (Nat.le_trans h1) (Nat.le_trans h2), (I.lb x hx).2⟩
      · have := hnb x hx
        exact ⟨this.2.2, Nat.lt_of_lt_of_le this.1 hp, Nat.lt_of_lt_of_le this.2.1 hq⟩
    · rw [List.length_append, Nat.add_assoc]
      exact Nat.le_trans (Nat.add_le_add_left hc _) I.cnt
  obtain ⟨p1, hp'⟩ : ∃ p1, p = p1 + 1 := ⟨p - 1, (Nat.sub_add_cancel hp1).symm⟩
  obtain ⟨q1, hq'⟩ : ∃ q1, q = q1 + 1 := ⟨q - 1, (Nat.sub_add_cancel hq1).symm⟩
  have ep : p - 1 = p1 := by rw [hp']; rfl
  have eq : q - 1 = q1 := by rw [hq']; rfl
  have plt : p1 < p := by rw [hp']; exact Nat.lt_succ_self p1
  have qlt : q1 < q := by rw [hq']; exact Nat.lt_succ_self q1
  have ple : ∀ {i}, i < p → i ≤ p1 := fun h => Nat.le_of_lt_succ (by rw [hp'] at h; exact h)
  have qle : ∀ {i}, i < q → i ≤ q1 := fun h => Nat.le_of_lt_succ (by rw [hq'] at h; exact h)
  have pm := Nat.lt_of_lt_of_le plt hp
  have qn := Nat.lt_of_lt_of_le qlt hq
  unfold stepP
  rw [ep, eq]
  clear hp' hq'
  by_cases hpq : p ≤ q
  · rw [if_pos hpq]
    obtain ⟨cost, costB⟩ := cost1 hp1 hpq (Nat.le_trans hq hn)
    have hpow : 2 ^ Nat.log2 (q / p) ≤ q := Nat.le_trans (Nat.log2_self_le (Nat.ne_of_gt ((Nat.one_le_div_iff hp1).mpr hpq))) (Nat.div_le_self _ _)
    have hpos : 0 < 2 ^ Nat.log2 (q / p) := Nat.one_le_two_pow
    rw [ep] at costB
    generalize hkk : Nat.log2 (q / p) = k at cost costB hpow hpos
    generalize hak : q - 2 ^ k = a at cost costB
    have haq : a + 2 ^ k = q := hak ▸ Nat.sub_add_cancel hpow
    have alt : a < q := haq ▸ Nat.lt_add_of_pos_right hpos
    clear hkk hak hpow hpos
    have hmono : ∀ i j, i ≤ j → j < q → goOf 0 k1 (k0 p1) i = true → goOf 0 k1 (k0 p1) j = true := by
      intro i j hij hj
      have := hk1 i j hij (Nat.lt_of_lt_of_le hj hq)
      simp only [goOf, if_true, Bool.not_eq_true', decide_eq_false_iff_not]
      exact fun h h' => h (Int.lt_of_le_of_lt this h')
    have goT : ∀ i, goOf 0 k1 (k0 p1) i = true → k0 p1 ≤ k1 i := by
      intro i; simp only [goOf, if_true, Bool.not_eq_true', decide_eq_false_iff_not]; exact Int.not_lt.mp
    have goF : ∀ i, goOf 0 k1 (k0 p1) i = false → k1 i < k0 p1 := by
      intro i; simp only [goOf, if_true, Bool.not_eq_false', decide_eq_true_eq]; exact id
    by_cases hgo : goOf 0 k1 (k0 p1) a = true
    · rw [if_pos hgo]
      dsimp only
      refine ⟨mk (Nat.le_refl _) (Nat.le_of_lt alt) (fun x => ?_) (seg_ord fun i j h1 h2 h3 => ?_) (fun i j h1 h2 h3 => ?_) (fun i j h1 h2 h3 => absurd h2 (Nat.not_lt.mpr h1)) (by simp) (fun x hx => ?_) (by simpa using cost), Nat.add_lt_add_left alt p⟩
      · rw [mem_seg]; exact ⟨.inr, fun h => h.elim (fun h => absurd h.2.2 (Nat.not_lt.mpr h.2.1)) id⟩
      · exact hk1 i j (Nat.le_of_lt h2) (Nat.lt_of_lt_of_le h3 hq)
      · exact Int.le_trans (hk0 i p1 (ple h1) pm) (goT j (hmono a j h2 h3 hgo))
      · rw [List.mem_singleton.mp hx]
        exact ⟨plt, alt, .inr (Nat.le_refl _)⟩
    · rw [if_neg hgo]
      have hgf : goOf 0 k1 (k0 p1) a = false := by simpa using hgo
      obtain ⟨b1, b2, b3, b4⟩ := bis_spec (goOf 0 k1 (k0 p1)) q hmono (q - (a + 1)) (a + 1) q alt (Nat.le_refl _) (Nat.le_refl _)
      obtain ⟨w1, w2⟩ := bis_asked (goOf 0 k1 (k0 p1)) (q - (a + 1)) (a + 1) q
      have w3 := bis_count (goOf 0 k1 (k0 p1)) k (q - (a + 1)) (a + 1) q (by rw [← haq, Nat.add_right_comm]) (Nat.le_refl _)
      generalize hbb : bis (goOf 0 k1 (k0 p1)) (q - (a + 1)) (a + 1) q = bb at b1 b2 b3 b4 w1 w2 w3
      dsimp only
      have low : ∀ j, j < bb.1 → k1 j < k0 p1 := by
        intro j hj
        refine goF j ?_
        rcases Nat.lt_or_ge a j with h | h
        · exact b3 j h hj
        · cases hg : goOf 0 k1 (k0 p1) j with
          | false => rfl
          | true => rw [hmono j a h alt hg] at hgf; cases hgf
      have high : ∀ j, bb.1 ≤ j → j < q → k0 p1 ≤ k1 j := fun j h1 h2 => goT j (b4 j h1 h2)
      refine ⟨mk (Nat.le_of_lt plt) b2 (fun x => ?_) ?_ (fun i j h1 h2 h3 => ?_) (fun i j h1 h2 h3 => ?_) ?_ (fun x hx => ?_) ?_, Nat.add_lt_add_of_lt_of_le plt b2⟩
      · rw [List.mem_cons, mem_seg]
        constructor
        · rintro (rfl | h)
          · exact .inl ⟨rfl, Nat.le_refl _, plt⟩
          · exact .inr h
        · rintro (h | h)
          · exact .inl (Prod.ext h.1 (Nat.le_antisymm (ple h.2.2) h.2.1))
          · exact .inr h
      · rw [List.pairwise_cons]
        refine ⟨fun x hx => ?_, seg_ord fun i j h1 h2 h3 => hk1 i j (Nat.le_of_lt h2) (Nat.lt_of_lt_of_le h3 hq)⟩
        obtain ⟨x1, x2⟩ := x
        obtain ⟨h1, h2, h3⟩ := mem_seg.mp hx
        cases h1
        exact bef01 (high x2 h2 h3)
      · exact Int.le_trans (hk0 i p1 (Nat.le_of_lt h1) pm) (high j h2 h3)
      · rw [Nat.le_antisymm (ple h2) h1]
        exact low j h3
      · rw [List.nodup_cons]
        refine ⟨fun hm' => ?_, map_nodup w2 (fun a b e => (Prod.mk.inj e).2)⟩
        obtain ⟨i, hi, e⟩ := List.mem_map.mp hm'
        have := (w1 i hi).1
        rw [(Prod.mk.inj e).2] at this
        exact Nat.not_succ_le_self _ this
      · rcases List.mem_cons.mp hx with rfl | hx
        · exact ⟨plt, alt, .inl (Nat.le_refl _)⟩
        · obtain ⟨i, hi, rfl⟩ := List.mem_map.mp hx
          exact ⟨plt, (w1 i hi).2, .inl (Nat.le_refl _)⟩
      · rw [List.length_cons, List.length_map, w3]
        exact costB bb.1 b1 b2
  · rw [if_neg hpq]
    have hqp : q ≤ p := Nat.le_of_not_le hpq
    obtain ⟨cost, costB⟩ := cost1 hq1 hqp (Nat.le_trans hp hm)
    have hpow : 2 ^ Nat.log2 (p / q) ≤ p := Nat.le_trans (Nat.log2_self_le (Nat.ne_of_gt ((Nat.one_le_div_iff hq1).mpr hqp))) (Nat.div_le_self _ _)
    have hpos : 0 < 2 ^ Nat.log2 (p / q) := Nat.one_le_two_pow
    rw [eq] at costB
    generalize hkk : Nat.log2 (p / q) = k at cost costB hpow hpos
    generalize hak : p - 2 ^ k = a at cost costB
    have haq : a + 2 ^ k = p := hak ▸ Nat.sub_add_cancel hpow
    have alt : a < p := haq ▸ Nat.lt_add_of_pos_right hpos
    clear hkk hak hpow hpos
    have hmono : ∀ i j, i ≤ j → j < p → goOf 1 k0 (k1 q1) i = true → goOf 1 k0 (k1 q1) j = true := by
      intro i j hij hj
      have := hk0 i j hij (Nat.lt_of_lt_of_le hj hp)
      simp only [goOf, Nat.one_ne_zero, if_false, decide_eq_true_eq]
      exact fun h => Int.lt_of_lt_of_le h this
    have goT : ∀ i, goOf 1 k0 (k1 q1) i = true → k1 q1 < k0 i := by
      intro i; simp only [goOf, Nat.one_ne_zero, if_false, decide_eq_true_eq]; exact id
    have goF : ∀ i, goOf 1 k0 (k1 q1) i = false → k0 i ≤ k1 q1 := by
      intro i; simp only [goOf, Nat.one_ne_zero, if_false, decide_eq_false_iff_not]; exact Int.not_lt.mp
    by_cases hgo : goOf 1 k0 (k1 q1) a = true
    · rw [if_pos hgo]
      dsimp only
      refine ⟨mk (Nat.le_of_lt alt) (Nat.le_refl _) (fun x => ?_) (seg_ord fun i j h1 h2 h3 => ?_) (fun i j h1 h2 h3 => absurd h3 (Nat.not_lt.mpr h2)) (fun i j h1 h2 h3 => ?_) (by simp) (fun x hx => ?_) (by rw [bnd_comm p q, bnd_comm a q]; simpa using cost), Nat.add_lt_add_right alt q⟩
      · rw [mem_seg]; exact ⟨.inl, fun h => h.elim id fun h => absurd h.2.2 (Nat.not_lt.mpr h.2.1)⟩
      · exact hk0 i j (Nat.le_of_lt h2) (Nat.lt_of_lt_of_le h3 hp)
      · exact Int.lt_of_le_of_lt (hk1 j q1 (qle h3) qn) (goT i (hmono a i h1 h2 hgo))
      · rw [List.mem_singleton.mp hx]
        exact ⟨alt, qlt, .inl (Nat.le_refl _)⟩
    · rw [if_neg hgo]
      have hgf : goOf 1 k0 (k1 q1) a = false := by simpa using hgo
      obtain ⟨b1, b2, b3, b4⟩ := bis_spec (goOf 1 k0 (k1 q1)) p hmono (p - (a + 1)) (a + 1) p alt (Nat.le_refl _) (Nat.le_refl _)
      obtain ⟨w1, w2⟩ := bis_asked (goOf 1 k0 (k1 q1)) (p - (a + 1)) (a + 1) p
      have w3 := bis_count (goOf 1 k0 (k1 q1)) k (p - (a + 1)) (a + 1) p (by rw [← haq, Nat.add_right_comm]) (Nat.le_refl _)
      generalize hbb : bis (goOf 1 k0 (k1 q1)) (p - (a + 1)) (a + 1) p = bb at b1 b2 b3 b4 w1 w2 w3
      dsimp only
      have low : ∀ j, j < bb.1 → k0 j ≤ k1 q1 := by
        intro j hj
        refine goF j ?_
        rcases Nat.lt_or_ge a j with h | h
        · exact b3 j h hj
        · cases hg : goOf 1 k0 (k1 q1) j with
          | false => rfl
          | true => rw [hmono j a h alt hg] at hgf; cases hgf
      have high : ∀ j, bb.1 ≤ j → j < p → k1 q1 < k0 j := fun j h1 h2 => goT j (b4 j h1 h2)
      refine ⟨mk b2 (Nat.le_of_lt qlt) (fun x => ?_) ?_ (fun i j h1 h2 h3 => ?_) (fun i j h1 h2 h3 => ?_) ?_ (fun x hx => ?_) ?_, Nat.add_lt_add_of_le_of_lt b2 qlt⟩
      · rw [List.mem_cons, mem_seg]
        constructor
        · rintro (rfl | h)
          · exact .inr ⟨rfl, Nat.le_refl _, qlt⟩
          · exact .inl h
        · rintro (h | h)
          · exact .inr h
          · exact .inl (Prod.ext h.1 (Nat.le_antisymm (qle h.2.2) h.2.1))
      · rw [List.pairwise_cons]
        refine ⟨fun x hx => ?_, seg_ord fun i j h1 h2 h3 => hk0 i j (Nat.le_of_lt h2) (Nat.lt_of_lt_of_le h3 hp)⟩
        obtain ⟨x1, x2⟩ := x
        obtain ⟨h1, h2, h3⟩ := mem_seg.mp hx
        cases h1
        exact bef10 (high x2 h2 h3)
      · rw [Nat.le_antisymm (qle h3) h2]
        exact low i h1
      · exact Int.lt_of_le_of_lt (hk1 j q1 (Nat.le_of_lt h3) qn) (high i h1 h2)
      · rw [List.nodup_cons]
        refine ⟨fun hm' => ?_, map_nodup w2 (fun a b e => (Prod.mk.inj e).1)⟩
        obtain ⟨i, hi, e⟩ := List.mem_map.mp hm'
        have := (w1 i hi).1
        rw [(Prod.mk.inj e).1] at this
        exact Nat.not_succ_le_self _ this
      · rcases List.mem_cons.mp hx with rfl | hx
        · exact ⟨alt, qlt, .inr (Nat.le_refl _)⟩
        · obtain ⟨i, hi, rfl⟩ := List.mem_map.mp hx
          exact ⟨(w1 i hi).2, qlt, .inr (Nat.le_refl _)⟩
      · rw [List.length_cons, List.length_map, w3, bnd_comm p q, bnd_comm bb.1 q1]
        exact costB bb.1 b1 b2
end
end Mine
end
-- P4
section
namespace Mine
noncomputable abbrev PSt := (Nat × Nat) × List Tag × List Tag
noncomputable def turnP (k0 k1 : Nat → Int) (s : PSt) : PSt :=
  if 0 < s.1.1 ∧ 0 < s.1.2 then ((stepP k0 k1 s.1.1 s.1.2).1, (stepP k0 k1 s.1.1 s.1.2).2.1 ++ s.2.1, s.2.2 ++ (stepP k0 k1 s.1.1 s.1.2).2.2) else s
noncomputable def runP (k0 k1 : Nat → Int) (m n : Nat) : Nat → PSt
  | 0 => ((m, n), [], [])
  | i + 1 => turnP k0 k1 (runP k0 k1 m n i)
noncomputable def allP (s : PSt) : List Tag := seg 0 0 s.1.1 ++ (seg 1 0 s.1.2 ++ s.2.1)
section
variable {k0 k1 : Nat → Int} {m n : Nat}
theorem run_inv (hk0 : ∀ i j, i ≤ j → j < m → k0 i ≤ k0 j) (hk1 : ∀ i j, i ≤ j → j < n → k1 i ≤ k1 j) (hm : m ≤ 9) (hn : n ≤ 9) : ∀ i, Inv k0 k1 m n (runP k0 k1 m n i).1.1 (runP k0 k1 m n i).1.2 (runP k0 k1 m n i).2.1 (runP k0 k1 m n i).2.2 ∧
    ((runP k0 k1 m n i).1.1 + (runP k0 k1 m n i).1.2 + i ≤ m + n ∨ (runP k0 k1 m n i).1.1 = 0 ∨ (runP k0 k1 m n i).1.2 = 0)
  | 0 => by
    refine ⟨⟨Nat.le_refl _, Nat.le_refl _, fun x => ?_, .nil, fun i j a b c => ?_, fun i j a b c => ?_, .nil, fun x hx => (nomatch hx), ?_⟩, .inl ?_⟩
    · show x ∈ ([] : List Tag) ↔ (x.1 = 0 ∧ m ≤ x.2 ∧ x.2 < m) ∨ (x.1 = 1 ∧ n ≤ x.2 ∧ x.2 < n)
      simp only [List.not_mem_nil, false_iff]
      exact fun h => h.elim (fun h => absurd h.2.2 (Nat.not_lt.mpr h.2.1)) fun h => absurd h.2.2 (Nat.not_lt.mpr h.2.1)
    · exact absurd c (Nat.not_lt.mpr b)
    · exact absurd b (Nat.not_lt.mpr a)
    · exact Nat.le_of_eq (Nat.zero_add _)
    · exact Nat.le_refl _
  | i + 1 => by
    obtain ⟨I, hs⟩ := run_inv hk0 hk1 hm hn i
    simp only [runP]
    generalize runP k0 k1 m n i = s at I hs
    unfold turnP
    by_cases h : 0 < s.1.1 ∧ 0 < s.1.2
    · rw [if_pos h]
      obtain ⟨I', hlt⟩ := step_inv hk0 hk1 I h.1 h.2 hm hn
      exact ⟨I', .inl (hs.elim (fun e => Nat.le_trans (Nat.le_of_eq (Nat.succ_add _ i).symm) (Nat.le_trans (Nat.add_le_add_right hlt i) e)) fun e => e.elim (fun e => (Nat.ne_of_gt h.1 e).elim) fun e => (Nat.ne_of_gt h.2 e).elim)⟩
    · rw [if_neg h]
      exact ⟨I, .inr ((Nat.eq_zero_or_pos s.1.1).imp id fun ha => (Nat.eq_zero_or_pos s.1.2).resolve_right fun hb => h ⟨ha, hb⟩)⟩
theorem run_end (hk0 : ∀ i j, i ≤ j → j < m → k0 i ≤ k0 j) (hk1 : ∀ i j, i ≤ j → j < n → k1 i ≤ k1 j) (hm : m ≤ 9) (hn : n ≤ 9) :
    (allP (runP k0 k1 m n (m + n))).Pairwise (bef k0 k1) ∧ (∀ x, x ∈ allP (runP k0 k1 m n (m + n)) ↔ (x.1 = 0 ∧ x.2 < m) ∨ (x.1 = 1 ∧ x.2 < n)) ∧ (runP k0 k1 m n (m + n)).2.2.Nodup ∧ (∀ x ∈ (runP k0 k1 m n (m + n)).2.2, x.1 < m ∧ x.2 < n) ∧
      (runP k0 k1 m n (m + n)).2.2.length ≤ bnd m n ∧ (runP k0 k1 m n (m + n)).1.1 ≤ m ∧ (runP k0 k1 m n (m + n)).1.2 ≤ n := by
  obtain ⟨I, hs⟩ := run_inv hk0 hk1 hm hn (m + n)
  generalize runP k0 k1 m n (m + n) = s at I hs
  have h0 : s.1.1 = 0 ∨ s.1.2 = 0 := by lia
  have hp := I.hp
  have hq := I.hq
  unfold allP
  refine ⟨?_, fun x => ?_, I.nodup, fun x hx => (I.lb x hx).2, Nat.le_trans (Nat.le_add_right _ _) I.cnt, hp, hq⟩
  · rw [List.pairwise_append, List.pairwise_append]
    refine ⟨seg_ord fun i j a b c => ?_, ⟨seg_ord fun i j a b c => ?_, I.ord, fun x hx y hy => ?_⟩, fun x hx y hy => ?_⟩
    · exact hk0 i j (Nat.le_of_lt b) (Nat.lt_of_lt_of_le c hp)
    · exact hk1 i j (Nat.le_of_lt b) (Nat.lt_of_lt_of_le c hq)
    · have := mem_seg.mp hx
      exact I.rem hk0 hk1 (.inr ⟨this.1, this.2.2⟩) hy
    · have hx' := mem_seg.mp hx
      rcases List.mem_append.mp hy with hy | hy
      · have := mem_seg.mp hy
        exact h0.elim (fun e => absurd hx'.2.2 (by rw [e]; exact Nat.not_lt_zero _)) fun e => absurd this.2.2 (by rw [e]; exact Nat.not_lt_zero _)
      · exact I.rem hk0 hk1 (.inl ⟨hx'.1, hx'.2.2⟩) hy
  · rw [List.mem_append, List.mem_append, mem_seg, mem_seg, I.mem]
    exact or_assoc.symm.trans ((seg_join hp hq (Nat.zero_le _) (Nat.zero_le _)).trans ⟨fun h => h.imp (fun h => ⟨h.1, h.2.2⟩) fun h => ⟨h.1, h.2.2⟩, fun h => h.imp (fun h => ⟨h.1, Nat.zero_le _, h.2⟩) fun h => ⟨h.1, Nat.zero_le _, h.2⟩⟩)
end
noncomputable def ent (x : Tag) : Int := 10 * (x.1 : Int) + (x.2 : Int)
noncomputable def val (us0 us1 : List Value) (x : Tag) : Value := if x.1 = 0 then us0.getD x.2 .none else us1.getD x.2 .none
theorem seg_val0 (us0 us1 : List Value) (a b : Nat) (hb : b ≤ us0.length) : (us0.take b).drop a = (seg 0 a b).map (val us0 us1) := by
  refine List.ext_getElem? fun i => ?_
  unfold seg
  rw [List.map_map, List.getElem?_map, List.getElem?_drop, List.getElem?_take]
  by_cases h : i < b - a
  · have g := Nat.lt_sub_iff_add_lt'.mp h
    rw [List.getElem?_range' h, if_pos g]
    simp [val, Nat.lt_of_lt_of_le g hb]
  · have e : (List.range' a (b - a))[i]? = none := List.getElem?_eq_none (by rw [List.length_range']; exact Nat.le_of_not_lt h)
    rw [e, if_neg fun c => h (Nat.lt_sub_iff_add_lt'.mpr c)]
    rfl
theorem seg_val1 (us0 us1 : List Value) (a b : Nat) (hb : b ≤ us1.length) : (us1.take b).drop a = (seg 1 a b).map (val us0 us1) := by
  refine List.ext_getElem? fun i => ?_
  unfold seg
  rw [List.map_map, List.getElem?_map, List.getElem?_drop, List.getElem?_take]
  by_cases h : i < b - a
  · have g := Nat.lt_sub_iff_add_lt'.mp h
    rw [List.getElem?_range' h, if_pos g]
    simp [val, Nat.lt_of_lt_of_le g hb]
  · have e : (List.range' a (b - a))[i]? = none := List.getElem?_eq_none (by rw [List.length_range']; exact Nat.le_of_not_lt h)
    rw [e, if_neg fun c => h (Nat.lt_sub_iff_add_lt'.mpr c)]
    rfl
theorem drop_take {p : Nat} (us : List Value) (hp : p ≤ us.length) : (us.take p).dropLast = us.take (p - 1) := by
  rw [List.dropLast_eq_take, List.take_take, List.length_take]
  rw [Nat.min_eq_left hp, Nat.min_eq_left (Nat.sub_le p 1)]
theorem outcome0 {us0 us1 : List Value} {k0 k1 : Nat → Int} {p q : Nat} (hp : p ≤ us0.length) (hq : q ≤ us1.length) (hp1 : 1 ≤ p) (hpq : p ≤ q) {T l0' l1' : List Value} {ys : List Int}
    (O : Outcome 0 (us0.take p) (us1.take q) (k0 (p - 1)) k1 (2 ^ Nat.log2 (q / p)) (fun i => entry 1 i (p - 1)) T l0' l1' ys) :
    l0' = us0.take (stepP k0 k1 p q).1.1 ∧ l1' = us1.take (stepP k0 k1 p q).1.2 ∧ T = (stepP k0 k1 p q).2.1.map (val us0 us1) ∧ ys = (stepP k0 k1 p q).2.2.map ent := by
  unfold Outcome at O
  have hl : (us1.take q).length = q := by rw [List.length_take]; exact Nat.min_eq_left hq
  have he : ∀ i, entry 1 i (p - 1) = ent (p - 1, i) := fun i => by simp [entry, ent]
  rw [hl] at O
  unfold stepP
  rw [if_pos hpq]
  have htk : ∀ a, a ≤ q → (us1.take q).take a = us1.take a := fun a ha => by rw [List.take_take, Nat.min_eq_left ha]
  rcases O with ⟨h1, rfl, rfl, rfl, rfl⟩ | ⟨h1, x, hx, rfl, rfl, rfl, rfl⟩
  · rw [if_pos h1]
    refine ⟨rfl, htk _ (Nat.sub_le _ _), seg_val1 _ _ _ _ hq, by simp [he]⟩
  · rw [if_neg (by rw [h1]; decide)]
    have hb := bis_le (goOf 0 k1 (k0 (p - 1))) (q - (q - 2 ^ Nat.log2 (q / p) + 1)) (q - 2 ^ Nat.log2 (q / p) + 1) q
    have hpos : 1 ≤ 2 ^ Nat.log2 (q / p) := Nat.one_le_two_pow
    refine ⟨?_, htk _ (hb (Nat.sub_lt (Nat.lt_of_lt_of_le hp1 hpq) hpos)), ?_, ?_⟩
    · exact drop_take _ hp
    · rw [List.map_cons, ← seg_val1 _ _ _ _ hq]
      congr 1
      rw [List.getLast?_eq_getElem?, List.length_take, List.getElem?_take] at hx
      rw [Nat.min_eq_left hp, if_pos (Nat.sub_lt hp1 Nat.one_pos)] at hx
      unfold val
      simp [List.getD_eq_getElem?_getD, hx]
    · simp only [List.map_cons, List.map_map, he]
      rfl
theorem outcome1 {us0 us1 : List Value} {k0 k1 : Nat → Int} {p q : Nat} (hp : p ≤ us0.length) (hq : q ≤ us1.length) (hq1 : 1 ≤ q) (hpq : ¬ p ≤ q) {T l0' l1' : List Value} {ys : List Int}
    (O : Outcome 1 (us1.take q) (us0.take p) (k1 (q - 1)) k0 (2 ^ Nat.log2 (p / q)) (fun i => entry 0 i (q - 1)) T l1' l0' ys) :
    l0' = us0.take (stepP k0 k1 p q).1.1 ∧ l1' = us1.take (stepP k0 k1 p q).1.2 ∧ T = (stepP k0 k1 p q).2.1.map (val us0 us1) ∧ ys = (stepP k0 k1 p q).2.2.map ent := by
  unfold Outcome at O
  have hl : (us0.take p).length = p := by rw [List.length_take]; exact Nat.min_eq_left hp
  have he : ∀ i, entry 0 i (q - 1) = ent (i, q - 1) := fun i => by simp [entry, ent]
  rw [hl] at O
  unfold stepP
  rw [if_neg hpq]
  have htk : ∀ a, a ≤ p → (us0.take p).take a = us0.take a := fun a ha => by rw [List.take_take, Nat.min_eq_left ha]
  rcases O with ⟨h1, rfl, rfl, rfl, rfl⟩ | ⟨h1, x, hx, rfl, rfl, rfl, rfl⟩
  · rw [if_pos h1]
    refine ⟨htk _ (Nat.sub_le _ _), rfl, seg_val0 _ _ _ _ hp, by simp [he]⟩
  · rw [if_neg (by rw [h1]; decide)]
    have hb := bis_le (goOf 1 k0 (k1 (q - 1))) (p - (p - 2 ^ Nat.log2 (p / q) + 1)) (p - 2 ^ Nat.log2 (p / q) + 1) p
    have hpos : 1 ≤ 2 ^ Nat.log2 (p / q) := Nat.one_le_two_pow
    refine ⟨htk _ (hb (Nat.sub_lt (Nat.lt_of_lt_of_le hq1 (Nat.le_of_not_le hpq)) hpos)), ?_, ?_, ?_⟩
    · exact drop_take _ hq
    · rw [List.map_cons, ← seg_val0 _ _ _ _ hp]
      congr 1
      rw [List.getLast?_eq_getElem?, List.length_take, List.getElem?_take] at hx
      rw [Nat.min_eq_left hq, if_pos (Nat.sub_lt hq1 Nat.one_pos)] at hx
      unfold val
      simp [List.getD_eq_getElem?_getD, hx]
    · simp only [List.map_cons, List.map_map, he]
      rfl
end Mine
end
-- P5
section
namespace Mine
noncomputable def pcT (s0 s1 : Nat) (x : Tag) : Str × Str := if x.1 = 0 then (piecesOf 0 s0).getD x.2 ("", "") else (piecesOf 1 s1).getD x.2 ("", "")
noncomputable def inR (s0 s1 : Nat) (x : Tag) : Prop := (x.1 = 0 ∧ x.2 < s0) ∨ (x.1 = 1 ∧ x.2 < s1)
theorem piecesOf_len (r n : Nat) : (piecesOf r n).length = n := by simp [piecesOf]
theorem Pcs.atv {O : Addr → Obj → Prop} {us : List Value} {ps : List (Str × Str)} (x : Pcs O us ps) {i : Nat} (hi : i < ps.length) : ∃ a t u, us.getD i .none = .ref a ∧ O a (tupO [.str (ps.getD i ("", "")).1 t, .str (ps.getD i ("", "")).2 u]) := by
  induction x generalizing i with
  | nil => simp at hi
  | cons a x y t u h _ ih =>
    cases i with
    | zero => exact ⟨a, t, u, rfl, h⟩
    | succ i => simpa using ih (by simpa using hi)
theorem pcs_tags {O : Addr → Obj → Prop} {us0 us1 : List Value} {s0 s1 : Nat} (h0 : Pcs O us0 (piecesOf 0 s0)) (h1 : Pcs O us1 (piecesOf 1 s1)) : ∀ {tags : List Tag}, (∀ x ∈ tags, inR s0 s1 x) → Pcs O (tags.map (val us0 us1)) (tags.map (pcT s0 s1))
  | [], _ => .nil
  | x :: r, h => by
    have ih := pcs_tags h0 h1 (tags := r) fun y hy => h y (.tail _ hy)
    rcases h x (.head _) with ⟨e, hx⟩ | ⟨e, hx⟩
    · obtain ⟨a, t, u, e1, e2⟩ := h0.atv (i := x.2) (by rw [piecesOf_len]; exact hx)
      have ev : val us0 us1 x = .ref a := by unfold val; rw [if_pos e]; exact e1
      have ep : pcT s0 s1 x = ((piecesOf 0 s0).getD x.2 ("", "")) := by unfold pcT; rw [if_pos e]
      rw [List.map_cons, List.map_cons, ev, ep]
      exact .cons a _ _ t u e2 ih
    · obtain ⟨a, t, u, e1, e2⟩ := h1.atv (i := x.2) (by rw [piecesOf_len]; exact hx)
      have e0 : ¬ x.1 = 0 := by rw [e]; decide
      have ev : val us0 us1 x = .ref a := by unfold val; rw [if_neg e0]; exact e1
      have ep : pcT s0 s1 x = ((piecesOf 1 s1).getD x.2 ("", "")) := by unfold pcT; rw [if_neg e0]
      rw [List.map_cons, List.map_cons, ev, ep]
      exact .cons a _ _ t u e2 ih
theorem seg_ne {r a b : Nat} (h : a < b) : seg r a b ≠ [] := by
  intro e
  have := (mem_seg (r := r) (a := a) (b := b) (x := (r, a))).mpr ⟨rfl, Nat.le_refl _, h⟩
  rw [e] at this; cases this
theorem step_ne {k0 k1 : Nat → Int} {p q : Nat} (hp : 1 ≤ p) (hq : 1 ≤ q) : (stepP k0 k1 p q).2.1 ≠ [] := by
  unfold stepP
  have h1 : 1 ≤ 2 ^ Nat.log2 (q / p) := Nat.one_le_two_pow
  have h2 : 1 ≤ 2 ^ Nat.log2 (p / q) := Nat.one_le_two_pow
  split
  · split
    · exact seg_ne (Nat.sub_lt hq h1)
    · intro e; cases e
  · split
    · exact seg_ne (Nat.sub_lt hp h2)
    · intro e; cases e
theorem hts_mono (height steps : Int) : ∀ j i, i ≤ j → hts height steps i ≤ hts height steps j
  | 0, i, h => by rw [Nat.le_zero.mp h]; exact Int.le_refl _
  | j + 1, i, h => by
    rcases Nat.lt_or_ge i (j + 1) with h1 | h1
    · have := hts_mono height steps j i (Nat.le_of_lt_succ h1)
      have h4 : 0 ≤ steps / 4 ^ j % 4 := Int.emod_nonneg _ (by decide)
      exact Int.le_trans this (Int.le_add_of_nonneg_right h4)
    · rw [Nat.le_antisymm h h1]; exact Int.le_refl _
theorem keys_mono (height steps : Int) (n : Nat) : ∀ i j, i ≤ j → j < n → (keysOf height steps n).getD i 0 ≤ (keysOf height steps n).getD j 0 := by
  intro i j hij hj
  have hi : i < n := Nat.lt_of_le_of_lt hij hj
  have e : ∀ k, k < n → (keysOf height steps n).getD k 0 = 37 * hts height steps (k + 1) := by
    intro k hk
    simp [keysOf, List.getD_eq_getElem?_getD, hk]
  rw [e i hi, e j hj]
  exact Int.mul_le_mul_of_nonneg_left (hts_mono height steps (j + 1) (i + 1) (Nat.succ_le_succ hij)) (by decide)
end Mine
end
-- B36
section
open PyProof.V PySem.Spec PySem.SeqAt
namespace Mine
theorem pieces_ok : ((List.range 2).all fun r => (List.range 10).all fun n => (piecesOf r n).all fun p => PyData.strOk p.1 && PyData.strOk p.2) = true := by decide +kernel
theorem pieces_ok' {r n : Nat} (hr : r < 2) (hn : n ≤ 9) : ∀ p ∈ piecesOf r n, PyData.strOk p.1 = true ∧ PyData.strOk p.2 = true := by
  intro p hp
  have h1 := List.all_eq_true.mp pieces_ok r (List.mem_range.mpr hr)
  have h2 := List.all_eq_true.mp h1 n (List.mem_range.mpr (by lia))
  have h3 := List.all_eq_true.mp h2 p hp
  rwa [Bool.and_eq_true] at h3
theorem pcT_mem {s0 s1 : Nat} {x : Tag} (h : inR s0 s1 x) : (pcT s0 s1 x ∈ piecesOf 0 s0) ∨ (pcT s0 s1 x ∈ piecesOf 1 s1) := by
  unfold pcT
  rcases h with ⟨e, hx⟩ | ⟨e, hx⟩
  · left
    rw [if_pos e, List.getD_eq_getElem?_getD, List.getElem?_eq_getElem (by rw [piecesOf_len]; exact hx)]
    exact List.getElem_mem _
  · right
    rw [if_neg (by lia), List.getD_eq_getElem?_getD, List.getElem?_eq_getElem (by rw [piecesOf_len]; exact hx)]
    exact List.getElem_mem _
theorem pcT_ok {s0 s1 : Nat} (a0 : s0 ≤ 9) (a1 : s1 ≤ 9) {x : Tag} (h : inR s0 s1 x) : PyData.strOk (pcT s0 s1 x).1 = true ∧ PyData.strOk (pcT s0 s1 x).2 = true := by
  rcases pcT_mem h with h | h
  · exact pieces_ok' (by decide) a0 _ h
  · exact pieces_ok' (by decide) a1 _ h
section
variable {prog : Program} {w : World} {A : Around} {E : Value → Shared → Prop} {h : Heap} {gs : Array GenState} {d : Drawn} {t : Nat} {os : OsState} {Q : Value → Shared → Prop}
theorem r_eqNil {a b : Value} {k k' : Nat} {x : PyData} {xs : List PyData} (ra : Rd h k a (.list (x :: xs))) (rb : Rd h k' b (.list [])) (hk : k ≤ 64) (hk' : k' ≤ 64) (hu : A.units + 64 < cLine) (q : Q (.bool false) ⟨h, gs, d, t, os⟩) : wpAny (model prog w) A (compareOp .Eq a b) Q E ⟨h, gs, d, t, os⟩ := by
  obtain ⟨as, r⟩ := ra.1
  obtain ⟨bs, r'⟩ := rb.1
  have e : PyData.eqv (.list (x :: xs)) (.list []) = false := by rw [PyData.eqv]; rfl
  exact eq_dataH r r' (ra.shaped hk) (rb.shaped hk') hu (by rw [e]; exact q)
end
noncomputable abbrev pieceS : Scope := { kind := .function, names := [(".0", .local), ("piece", .local)], isGenerator := false, isCoroutine := false }
section
variable {w : World} {A : Around} {E : Value → Shared → Prop} {K : Frag} {mg mb : Str → Option Value} {h g : Heap} {gs : Array GenState} {d : Drawn} {t : Nat} {os : OsState} {L : Addr} {m : Str → Option Value}
set_option maxHeartbeats 2000000 in
theorem third_lc (MK : MthK K) (G : Gd K mg mb g) (hh : A.handled = none) {p1 p2 p3 pos : Pos} {x dx : Addr} {its : List Value} {n : Nat} {od : Obj} {news : List (Addr × Obj)} (F : Fr g L h m) (N : News g L h news) (hx : (x, accO dx its.toArray n) ∈ news) (hd : h.get? dx = some od) (hm : m "third" = some (.ref x)) (hz : its.length ≤ 1000) {Q : Value → Shared → Prop}
    (q : ∀ l c h' t', Fr g L h' m → News g L h' ((l, listOf its.toArray c) :: news) → (∀ p ∈ news, p.1 ≠ l) → h.objs.size ≤ l → Q (.ref l) ⟨h', gs, d, t', os⟩) :
    wpAny (model PW w) A (eval (.ListComp (.Name "piece" p1) [⟨.Name "piece" p2, .Name "third" p3, [], 0⟩] pieceS pos) (lEnv L)) Q E ⟨h, gs, d, t, os⟩ := by
  have I : Acc h x dx its.toArray n od := ⟨na N hx, hd⟩
  with_reducible refine x_LC ?_
  wtm_at "go2"
  refine acc_iter (G.X.keeps F.keep) MK.cls I ?_
  have F2 : Fr g L (h.push (listIt x 0)) m := F.push _
  have N2 : News g L (h.push (listIt x 0)) ((h.objs.size, listIt x 0) :: news) := News.push F N _
  have hI : ∀ p ∈ news, p.1 ≠ h.objs.size := fun p hp => Nat.ne_of_lt (Heap.lt_size (na N hp))
  refine r_compForP (Iter.acc x its.toArray) hh F2 N2 hI ⟨rfl, rfl⟩ (fun i ys => ys = its.take i) rfl ?_ ?_
  · intro g' acc D sg kN nsL hsz
    refine ⟨fun h' k => ⟨_, n, k _ _ (kN _ hx), rfl⟩, ?_⟩
    intro i m ys c h t o v hi zq9 F N hai _ hv
    obtain rfl := zq9
    have hi' : i < its.length := by simpa using hi
    have hv : its[i]? = some v := by simpa using hv
    refine wpAny_pure ?_
    wtm_at "go2"
    wtm_at "sts"
    intro h₅ F N
    refine tests_nil ?_
    rw [if_pos rfl]
    refine r_emit rfl ?_
    wtm_at "go2"
    refine papp F N hai (by rw [List.length_take, sizeLine_eq]; lia) ?_
    rw [List.take_add_one, hv]
    rfl
  · intro acc ys c h'' t'' zq5 F' N' hne hac
    obtain rfl := zq5
    have e : its.take its.toArray.size = its := List.take_of_length_le (by simp)
    rw [e] at N'
    refine q acc c h'' t'' F' N' hne ?_
    exact Nat.le_trans (by rw [Heap.size_push]; exact Nat.le_succ _) hac
end
end Mine
end
-- P6
section
namespace Mine
theorem seg_len (r a b : Nat) : (seg r a b).length = b - a := by simp [seg]
theorem step_len {k0 k1 : Nat → Int} {p q : Nat} (hp : 1 ≤ p) (hq : 1 ≤ q) : (stepP k0 k1 p q).2.1.length + (stepP k0 k1 p q).1.1 + (stepP k0 k1 p q).1.2 = p + q := by
  unfold stepP
  have h1 : 1 ≤ 2 ^ Nat.log2 (q / p) := Nat.one_le_two_pow
  have h2 : 1 ≤ 2 ^ Nat.log2 (p / q) := Nat.one_le_two_pow
  split
  · split
    · rw [seg_len]; dsimp only
      rw [Nat.add_right_comm, Nat.sub_add_cancel (Nat.sub_le _ _), Nat.add_comm]
    · have hb := bis_le (goOf 0 k1 (k0 (p - 1))) (q - (q - 2 ^ Nat.log2 (q / p) + 1)) (q - 2 ^ Nat.log2 (q / p) + 1) q (Nat.sub_lt hq h1)
      rw [List.length_cons, seg_len]; dsimp only
      rw [Nat.add_right_comm, Nat.add_right_comm _ 1, Nat.sub_add_cancel hb, Nat.add_assoc, Nat.add_sub_of_le hp, Nat.add_comm]
  · split
    · rw [seg_len]; dsimp only
      rw [Nat.sub_add_cancel (Nat.sub_le _ _)]
    · have hb := bis_le (goOf 1 k0 (k1 (q - 1))) (p - (p - 2 ^ Nat.log2 (p / q) + 1)) (p - 2 ^ Nat.log2 (p / q) + 1) p (Nat.sub_lt hp h2)
      rw [List.length_cons, seg_len]; dsimp only
      rw [Nat.add_right_comm _ 1, Nat.sub_add_cancel hb, Nat.add_assoc, Nat.add_sub_of_le hq]
theorem run_lenT (k0 k1 : Nat → Int) (m n : Nat) : ∀ i, (runP k0 k1 m n i).2.1.length + (runP k0 k1 m n i).1.1 + (runP k0 k1 m n i).1.2 = m + n
  | 0 => by simp [runP]
  | i + 1 => by
    have ih := run_lenT k0 k1 m n i
    simp only [runP]
    generalize runP k0 k1 m n i = s at ih
    unfold turnP
    by_cases h : 0 < s.1.1 ∧ 0 < s.1.2
    · rw [if_pos h]
      have := step_len (k0 := k0) (k1 := k1) h.1 h.2
      rw [List.length_append]
      dsimp only
      lia
    · rw [if_neg h]; exact ih
end Mine
end
-- L11
section
namespace Mine
theorem bnd_all : ((List.range 10).all fun p => (List.range 10).all fun q => decide (bnd p q ≤ 100)) = true := by decide +kernel
theorem bnd_le {p q : Nat} (hp : p ≤ 9) (hq : q ≤ 9) : bnd p q ≤ 100 := by
  have h1 := List.all_eq_true.mp bnd_all p (List.mem_range.mpr (by lia))
  have h2 := List.all_eq_true.mp h1 q (List.mem_range.mpr (by lia))
  exact of_decide_eq_true h2
structure LawP (head s0 s1 : Nat) (p0 p1 x0 x1 pl : Addr) (us0 us1 : List Value) (tl : List (Addr × Obj)) : Prop where
  epl : ∃ c, (pl, listOf [Value.ref p0, .ref p1].toArray c) ∈ tl
  ex0 : ∃ od u, (x0, od) ∈ tl ∧ IniD od (.int (head : Nat) u)
  ex1 : ∃ od u, (x1, od) ∈ tl ∧ IniD od (.int (head : Nat) u)
  pc0 : Pcs (fun a o => (a, o) ∈ tl) us0 (piecesOf 0 s0)
  pc1 : Pcs (fun a o => (a, o) ∈ tl) us1 (piecesOf 1 s1)
noncomputable abbrev takenQ : Str := "_law_taken" ++ ".<locals>." ++ "<lambda>"
noncomputable def T204 (own : List (Addr × Obj)) (ps : Array Value) : Prop := ∀ h'' : Heap, (∀ p ∈ own, h''.get? p.1 = some p.2) → ∀ z, TabOk h'' z takenQ ps
noncomputable abbrev MU (p0 p1 lg p2 x2 : Addr) : List Addr := [p0, p1, lg, 204, p2, x2]
theorem MU.ne {p0 p1 lg p2 x2 : Addr} (h : (MU p0 p1 lg p2 x2).Nodup) : (p0 ≠ p2 ∧ p1 ≠ p2 ∧ lg ≠ p2 ∧ (204 : Addr) ≠ p2) ∧ (p0 ≠ x2 ∧ p1 ≠ x2 ∧ lg ≠ x2 ∧ (204 : Addr) ≠ x2) ∧ p2 ≠ x2 ∧ p0 ≠ p1 ∧ p0 ≠ lg ∧ p1 ≠ lg ∧ p0 ≠ 204 ∧ p1 ≠ 204 ∧ lg ≠ 204 := by
  simp only [MU, List.nodup_cons, List.mem_cons, List.not_mem_nil, or_false, not_or] at h
  obtain ⟨⟨a1, a2, a3, a4, a5⟩, ⟨b1, b2, b3, b4⟩, ⟨c1, c2, c3⟩, ⟨d1, d2⟩, e1, -⟩ := h
  exact ⟨⟨a4, b3, c2, d1⟩, ⟨a5, b4, c3, d2⟩, e1, a1, a2, b1, a3, b2, c1⟩
structure MOk (pl p2 tell ml : Addr) (base : Nat) (m : Str → Option Value) : Prop where
  a : m "piles" = some (.ref pl)
  b : m "third" = some (.ref p2)
  c : m "tell" = some (.ref tell)
  d : ∃ u, m "base" = some (.int (base : Nat) u)
  e : m "marks" = some (.ref ml)
theorem MOk.set {pl p2 tell ml : Addr} {base : Nat} {m : Str → Option Value} (x : MOk pl p2 tell ml base m) {y : Str} {v : Value} (h1 : "piles" ≠ y) (h2 : "third" ≠ y) (h3 : "tell" ≠ y) (h4 : "base" ≠ y) (h5 : "marks" ≠ y) : MOk pl p2 tell ml base (fun z => if z = y then some v else m z) :=
  ⟨(if_neg h1).trans x.a, (if_neg h2).trans x.b, (if_neg h3).trans x.c, x.d.imp fun u hu => (if_neg h4).trans hu, (if_neg h5).trans x.e⟩
noncomputable abbrev muL (p0 p1 x0 x1 lg p2 x2 : Addr) (us0 us1 : List Value) (s : PSt) (n0 n1 n2 : Nat) (od2 : Obj) (vs : List Value) (c : Nat) (ps : Array Value) : List (Addr × Obj) :=
  [(p0, accO x0 (us0.take s.1.1).toArray n0), (p1, accO x1 (us1.take s.1.2).toArray n1), (lg, listOf vs.toArray c), (204, tabObj ps), (p2, accO x2 (s.2.1.map (val us0 us1)).toArray n2), (x2, od2)]
inductive LoopI (s1 : Nat) (p0 p1 x0 x1 lg p2 x2 : Addr) (us0 us1 : List Value) (R : List (Addr × Obj)) (s : PSt) : List (Addr × Obj) → Prop
  | mk (n0 n1 n2 : Nat) (od2 : Obj) (j2 : Int) (u2 : Tok) (vs : List Value) (c : Nat) (ps : Array Value) (own : List (Addr × Obj)) (hI : IntsAre vs ((89 + (s1 : Int)) :: s.2.2.map ent)) (hi2 : IniD od2 (.int j2 u2)) (hT : T204 own ps) (hown : ∀ p ∈ own, p.1 ∉ MU p0 p1 lg p2 x2) :
    LoopI s1 p0 p1 x0 x1 lg p2 x2 us0 us1 R s (muL p0 p1 x0 x1 lg p2 x2 us0 us1 s n0 n1 n2 od2 vs c ps ++ (own ++ R))
section
variable {w : World} {A : Around} {E : Value → Shared → Prop} {K : Frag} {mg mb : Str → Option Value} {h g : Heap} {gs : Array GenState} {d : Drawn} {t : Nat} {os : OsState} {L : Addr} {m : Str → Option Value}
noncomputable def forBody : Option Stmt → Option (List Stmt)
  | some (.For _ _ b _ _) => some b
  | _ => none
noncomputable def bodyL : List Stmt := pick (forBody (b_law[18]?)) _ (by with_unfolding_all rfl)
set_option maxHeartbeats 4000000 in
theorem turn18 (LN : LawN K) (LF : LawF K) (G : Gd K mg mb g) (am : Amb A 29) (C : CodeHd g 208 204) (B : g.BuiltinsAt mg 204) {s0 s1 base head : Nat} {K0 K1 : List Int} {lg kl r0 r1 ml tell pl p0 p1 x0 x1 p2 x2 it : Addr} {us0 us1 : List Value} {tl R : List (Addr × Obj)} {o : Obj} {s : PSt}
    (lt : LawT L s0 s1 base head K0 K1 lg kl r0 r1 ml tell tl) (lp : LawP head s0 s1 p0 p1 x0 x1 pl us0 us1 tl) (hR : ∀ p ∈ tl, p ∈ R) (hRn : ∀ p ∈ R, p.1 ∉ MU p0 p1 lg p2 x2) (hmu : (MU p0 p1 lg p2 x2).Nodup)
    (hs0 : s.1.1 ≤ s0) (hs1 : s.1.2 ≤ s1) (hlk : s.2.2.length ≤ 1000) (htg : ∀ x ∈ (turnP (fun i => K0.getD i 0) (fun i => K1.getD i 0) s).2.1, inR s0 s1 x) (htl2 : (turnP (fun i => K0.getD i 0) (fun i => K1.getD i 0) s).2.1.length ≤ 100)
    (F : Fr g L h m) (hm : MOk pl p2 tell ml base m) {news : List (Addr × Obj)} (N : News g L h ((it, o) :: news)) (hni : ∀ p ∈ news, p.1 ≠ it) (hJ : LoopI s1 p0 p1 x0 x1 lg p2 x2 us0 us1 R s news) {Q : Flow → Shared → Prop}
    (q : ∀ m' news' h' t', Fr g L h' m' → MOk pl p2 tell ml base m' → News g L h' ((it, o) :: news') → (∀ p ∈ news', p.1 ≠ it) → LoopI s1 p0 p1 x0 x1 lg p2 x2 us0 us1 R (turnP (fun i => K0.getD i 0) (fun i => K1.getD i 0) s) news' → Q .next ⟨h', gs, d, t', os⟩) :
    wpAny (model PW w) A (execs bodyL (lEnv L)) Q E ⟨h, gs, d, t, os⟩ := by
  obtain ⟨n0, n1, n2, od2, j2, u2, vs, c, ps, own, hI, hi2, hT, hown⟩ := hJ
  obtain ⟨cpl, epl⟩ := lp.epl
  obtain ⟨od0, v0, ex0, hi0⟩ := lp.ex0
  obtain ⟨od1, v1, ex1, hi1⟩ := lp.ex1
  have MK := LF.tkn.meth
  have nt : ∀ {p}, p ∈ tl → p ∈ (it, o) :: (muL p0 p1 x0 x1 lg p2 x2 us0 us1 s n0 n1 n2 od2 vs c ps ++ (own ++ R)) := fun hp => .tail _ (List.mem_append_right _ (List.mem_append_right _ (hR _ hp)))
  have nm : ∀ {p}, p ∈ muL p0 p1 x0 x1 lg p2 x2 us0 us1 s n0 n1 n2 od2 vs c ps → p ∈ (it, o) :: (muL p0 p1 x0 x1 lg p2 x2 us0 us1 s n0 n1 n2 od2 vs c ps ++ (own ++ R)) := fun hp => .tail _ (List.mem_append_left _ hp)
  have N : News g L h ((it, o) :: (muL p0 p1 x0 x1 lg p2 x2 us0 us1 s n0 n1 n2 od2 vs c ps ++ (own ++ R))) := N
  have m1 := hm.a
  have m2 := hm.b
  have m3 := hm.c
  obtain ⟨ub, m4⟩ := hm.d
  have m5 := hm.e
  have hl0 : us0.length = s0 := by rw [Pcs.length lp.pc0, piecesOf_len]
  have hl1 : us1.length = s1 := by rw [Pcs.length lp.pc1, piecesOf_len]
  have ht0 : (us0.take s.1.1).length = s.1.1 := by rw [List.length_take]; lia
  have ht1 : (us1.take s.1.2).length = s.1.2 := by rw [List.length_take]; lia
  refine wpAny_execs_cons ?_
  wtm_at "go2"
  with_reducible refine r_subL (na N (nt epl)) (x := .ref p0) (by decide) (by decide) rfl ?_
  wtm_at "go2"
  have I0 : Acc h p0 x0 (us0.take s.1.1).toArray n0 od0 := ⟨na N (nm (by wtm_at "mm")), na N (nt ex0)⟩
  refine m_count (name := "part_count") (G.X.keeps F.keep) MK I0 hi0 ?_
  wtm_at "go2"
  refine ⟨Kp.fnK MK.count (G.X.keeps F.keep), ?_⟩
  refine count_spec MK.count MK.scount MK.cls MK.sup (G.keeps F.keep) (am.mono (by decide)) I0 ?_
  intro h₂ t₂ w2 k2
  have F := Fr.sub F k2
  have N := News.keep N k2
  wtm_at "go2"
  have ez0 : (((us0.take s.1.1).toArray.size : Nat) : Int) = (s.1.1 : Int) := by rw [List.size_toArray, ht0]
  have ez1 : (((us1.take s.1.2).toArray.size : Nat) : Int) = (s.1.2 : Int) := by rw [List.size_toArray, ht1]
  rw [ez0]
  by_cases hp : 0 < s.1.1
  · rw [if_pos (by simpa using hp)]
    wtm_at "go2"
    with_reducible refine r_subL (na N (nt epl)) (x := .ref p1) (by decide) (by decide) rfl ?_
    wtm_at "go2"
    have I1 : Acc h₂ p1 x1 (us1.take s.1.2).toArray n1 od1 := ⟨na N (nm (by wtm_at "mm")), na N (nt ex1)⟩
    refine m_count (name := "part_count") (G.X.keeps F.keep) MK I1 hi1 ?_
    wtm_at "go2"
    refine ⟨Kp.fnK MK.count (G.X.keeps F.keep), ?_⟩
    refine count_spec MK.count MK.scount MK.cls MK.sup (G.keeps F.keep) (am.mono (by decide)) I1 ?_
    intro h₃ t₃ w3 k3
    have F := Fr.sub F k3
    have N := News.keep N k3
    wtm_at "go2"
    rw [ez1]
    by_cases hq : 0 < s.1.2
    · rw [if_pos (by simpa using hq)]
      wtm_at "go2"
      refine isTrue_and_nil ?_
      rw [if_pos rfl]
      wtm_at "go2"
      with_reducible refine nm_K F G LF.nTaken ?_
      wtm_at "go2"
      obtain ⟨oK, eK, dK⟩ := lt.eK
      refine nm_C (na N (nt eK)) dK ?_
      wtm_at "go2"
      refine ⟨Kp.fnK LF.tkn.fn (G.X.keeps F.keep), ?_⟩
      have mul : ∀ {a}, a ∉ MU p0 p1 lg p2 x2 → a ∉ [p0, p1, lg, 204] := fun hn hm => hn (List.mem_append_left [p2, x2] hm)
      have tg : ∀ {a o}, (a, o) ∈ tl → (hides h₃ [p0, p1, lg, 204]).get? a = some o := fun hp => hides_get (na N (nt hp)) (mul (hRn _ (hR _ hp)))
      have og : ∀ p ∈ own, (hides h₃ [p0, p1, lg, 204]).get? p.1 = some p.2 := fun p hp => hides_get (na N (.tail _ (List.mem_append_right _ (List.mem_append_left _ hp)))) (mul (hown p hp))
      have gmu : ∀ a ∈ [p0, p1, lg, 204], g.get? a = none := fa_cons (N _ (nm (p := (p0, accO x0 (us0.take s.1.1).toArray n0)) (by wtm_at "mm"))).2.2 (fa_cons (N _ (nm (p := (p1, accO x1 (us1.take s.1.2).toArray n1)) (by wtm_at "mm"))).2.2 (fa_cons (N _ (nm (p := (lg, listOf vs.toArray c)) (by wtm_at "mm"))).2.2 (fa_cons (N _ (nm (p := (204, tabObj ps)) (by wtm_at "mm"))).2.2 fa_nil)))
      have sgh : Sub g (hides h₃ [p0, p1, lg, 204]) := subHides F.keep gmu
      have Gh := G.keeps sgh
      obtain ⟨ckl, ekl⟩ := lt.ekl
      obtain ⟨kv0, ck0, er0, hI0⟩ := lt.er0
      obtain ⟨kv1, ck1, er1, hI1⟩ := lt.er1
      obtain ⟨mv, cm, eml, hM⟩ := lt.eml
      obtain ⟨pmv, c', ctv, etl, hcd⟩ := lt.etl
      have n0' := lt.n0
      have n1' := lt.n1
      have TOk := lt.tellOk (w := w) (gs := gs) (d := d) (os := os) (b := hides h₃ [p0, p1, lg, 204]) (G.keeps (subHideR sgh (gmu lg (.tail _ (.tail _ (.head _)))))) (fun p hp => tg hp)
      have hpp : p0 ≠ p1 := by
        have := List.nodup_cons.mp hmu
        intro e
        exact this.1 (e ▸ .head _)
      refine taken_spec LF.tkn (l0 := us0.take s.1.1) (l1 := us1.take s.1.2) (n0' := n0) (n1' := n1) (lc := c) (n := 2) (tell := tell) Gh hidesSub (Nat.le_of_eq hides_size) (am.mono (by decide)) ?_ hpp (tg epl) (tg ekl) (tg er0) hI0 (tg er1) hI1 (tg ex0) hi0 (tg ex1) hi1 (tg eml) hM n0'.2.2.2.2.1 hI ?_ (tg etl) rfl TOk (C.keeps sgh) (B.keeps sgh) (hT _ og _) ?_ ?_ ?_ ?_ ?_ ?_ ?_ ?_ ?_
      · intro p hp
        have z : p ∈ [(p0, accO x0 (us0.take s.1.1).toArray n0), (p1, accO x1 (us1.take s.1.2).toArray n1), (lg, listOf vs.toArray c), (204, tabObj ps)] → p ∈ muL p0 p1 x0 x1 lg p2 x2 us0 us1 s n0 n1 n2 od2 vs c ps := fun h => List.mem_append_left [(p2, accO x2 (s.2.1.map (val us0 us1)).toArray n2), (x2, od2)] h
        refine ⟨na N (nm (z hp)), hides_in ?_⟩
        exact List.mem_map_of_mem (f := Prod.fst) hp
      · simp; lia
      · lia
      · lia
      · lia
      · lia
      · lia
      · lia
      · show _ ≤ szOf s0 s1 0; simp [szOf]; lia
      · show _ ≤ szOf s0 s1 1; simp [szOf]; lia
      rintro a h₄ t₄ T cT l0' l1' m0 m1' ys ps' own' hO k4 eT za e0 e1 hLg e204 ho' hcr
      rw [ht0, ht1] at hO
      have hst : l0' = us0.take (stepP (fun i => K0.getD i 0) (fun i => K1.getD i 0) s.1.1 s.1.2).1.1 ∧ l1' = us1.take (stepP (fun i => K0.getD i 0) (fun i => K1.getD i 0) s.1.1 s.1.2).1.2 ∧ T = (stepP (fun i => K0.getD i 0) (fun i => K1.getD i 0) s.1.1 s.1.2).2.1.map (val us0 us1) ∧ ys = (stepP (fun i => K0.getD i 0) (fun i => K1.getD i 0) s.1.1 s.1.2).2.2.map ent := by
        by_cases hpq : s.1.1 ≤ s.1.2
        · rw [if_pos hpq] at hO
          exact outcome0 (k0 := fun i => K0.getD i 0) (k1 := fun i => K1.getD i 0) (by lia) (by lia) hp hpq hO
        · rw [if_neg hpq] at hO
          exact outcome1 (k0 := fun i => K0.getD i 0) (k1 := fun i => K1.getD i 0) (by lia) (by lia) hq hpq hO
      obtain ⟨rfl, rfl, rfl, rfl⟩ := hst
      have et : turnP (fun i => K0.getD i 0) (fun i => K1.getD i 0) s = ((stepP (fun i => K0.getD i 0) (fun i => K1.getD i 0) s.1.1 s.1.2).1, (stepP (fun i => K0.getD i 0) (fun i => K1.getD i 0) s.1.1 s.1.2).2.1 ++ s.2.1, s.2.2 ++ (stepP (fun i => K0.getD i 0) (fun i => K1.getD i 0) s.1.1 s.1.2).2.2) := by
        unfold turnP; rw [if_pos ⟨hp, hq⟩]
      have hTne := step_ne (k0 := fun i => K0.getD i 0) (k1 := fun i => K1.getD i 0) hp hq
      rw [et] at htg q htl2
      dsimp only at htl2
      rw [List.length_append] at htl2
      generalize hsp : stepP (fun i => K0.getD i 0) (fun i => K1.getD i 0) s.1.1 s.1.2 = sp at *
      obtain ⟨vs', c4, elg, hI'⟩ := hLg
      have LN4 : L ∉ [p0, p1, lg, 204] := notIn (fa_cons (N _ (nm (p := (p0, accO x0 (us0.take s.1.1).toArray n0)) (by wtm_at "mm"))).2.1 (fa_cons (N _ (nm (p := (p1, accO x1 (us1.take s.1.2).toArray n1)) (by wtm_at "mm"))).2.1 (fa_cons (N _ (nm (p := (lg, listOf vs.toArray c)) (by wtm_at "mm"))).2.1 (fa_cons (N _ (nm (p := (204, tabObj ps)) (by wtm_at "mm"))).2.1 fa_nil))))
      have K4 := of_hides k4
      have F4 : Fr g L h₄ m := Fr.exts F LN4 gmu K4
      have old4 : ∀ p ∈ (it, o) :: (muL p0 p1 x0 x1 lg p2 x2 us0 us1 s n0 n1 n2 od2 vs c ps ++ (own ++ R)), p.1 ∉ [p0, p1, lg, 204] → h₄.get? p.1 = some p.2 ∧ p.1 ≠ L ∧ g.get? p.1 = none := fun p hp hn => ⟨K4 _ _ hn (N p hp).1, (N p hp).2⟩
      have np2 : p2 ∉ [p0, p1, lg, 204] ∧ x2 ∉ [p0, p1, lg, 204] := by
        obtain ⟨⟨z1, z2, z3, z4⟩, ⟨y1, y2, y3, y4⟩, -⟩ := MU.ne hmu
        exact ⟨notIn (fa_cons z1 (fa_cons z2 (fa_cons z3 (fa_cons z4 fa_nil)))), notIn (fa_cons y1 (fa_cons y2 (fa_cons y3 (fa_cons y4 fa_nil))))⟩
      have itn : it ∉ [p0, p1, lg, 204] := notIn (fa_cons (hni (p0, accO x0 (us0.take s.1.1).toArray n0) (by wtm_at "mm")) (fa_cons (hni (p1, accO x1 (us1.take s.1.2).toArray n1) (by wtm_at "mm")) (fa_cons (hni (lg, listOf vs.toArray c) (by wtm_at "mm")) (fa_cons (hni (204, tabObj ps) (by wtm_at "mm")) fa_nil))))
      have own4 : ∀ p ∈ own', h₄.get? p.1 = some p.2 ∧ p.1 ≠ L ∧ g.get? p.1 = none := fun p hp => ⟨(ho' p hp).2, Nat.ne_of_gt (Nat.lt_of_lt_of_le (Fr.lt F) (ho' p hp).1), none_of_size (Nat.le_trans (Fr.szle F) (ho' p hp).1)⟩
      have a4 : a ≠ L ∧ g.get? a = none := ⟨Nat.ne_of_gt (Nat.lt_of_lt_of_le (Fr.lt F) za), none_of_size (Nat.le_trans (Fr.szle F) za)⟩
      have lt3 : ∀ {q o}, h₃.get? q = some o → ∀ p ∈ own', p.1 ≠ q := fun e p hp => Nat.ne_of_gt (Nat.lt_of_lt_of_le (Heap.lt_size e) (ho' p hp).1)
      have N4 : News g L h₄ ((p2, accO x2 (s.2.1.map (val us0 us1)).toArray n2) :: (x2, od2) :: (a, listOf (sp.2.1.map (val us0 us1)).toArray cT) :: (it, o) :: (p0, accO x0 (us0.take sp.1.1).toArray m0) :: (p1, accO x1 (us1.take sp.1.2).toArray m1') :: (lg, listOf vs'.toArray c4) :: (204, tabObj ps') :: (own' ++ (own ++ R))) := by
        have z0 := (N _ (nm (p := (p0, accO x0 (us0.take s.1.1).toArray n0)) (by wtm_at "mm"))).2
        have z1 := (N _ (nm (p := (p1, accO x1 (us1.take s.1.2).toArray n1)) (by wtm_at "mm"))).2
        have z2 := (N _ (nm (p := (lg, listOf vs.toArray c)) (by wtm_at "mm"))).2
        have z3 := (N _ (nm (p := (204, tabObj ps)) (by wtm_at "mm"))).2
        exact News.co (old4 (p2, _) (nm (by wtm_at "mm")) np2.1) (News.co (old4 (x2, _) (nm (by wtm_at "mm")) np2.2) (News.co ⟨eT, a4⟩ (News.co (old4 (it, o) (.head _) itn) (News.co ⟨e0, z0⟩ (News.co ⟨e1, z1⟩ (News.co ⟨elg, z2⟩ (News.co ⟨e204, z3⟩ fun p hp =>
          (List.mem_append.mp hp).elim (own4 p) fun hp => (List.mem_append.mp hp).elim (fun hp => old4 p (.tail _ (List.mem_append_right _ (List.mem_append_left _ hp))) (mul (hown p hp)))
            fun hp => old4 p (.tail _ (List.mem_append_right _ (List.mem_append_right _ hp))) (mul (hRn p hp)))))))))
      have az3 : ∀ {q o}, h₃.get? q = some o → a ≠ q := fun e => Nat.ne_of_gt (Nat.lt_of_lt_of_le (Heap.lt_size e) za)
      have gp2 := na N (nm (p := (p2, accO x2 (s.2.1.map (val us0 us1)).toArray n2)) (by wtm_at "mm"))
      have gx2 := na N (nm (p := (x2, od2)) (by wtm_at "mm"))
      have gp0 := na N (nm (p := (p0, accO x0 (us0.take s.1.1).toArray n0)) (by wtm_at "mm"))
      have gp1 := na N (nm (p := (p1, accO x1 (us1.take s.1.2).toArray n1)) (by wtm_at "mm"))
      have glg := na N (nm (p := (lg, listOf vs.toArray c)) (by wtm_at "mm"))
      have g204 := na N (nm (p := (204, tabObj ps)) (by wtm_at "mm"))
      have git := na N (.head _)
      obtain ⟨⟨w1, w2, w3, w4⟩, ⟨y1, y2, y3, y4⟩, w5, -⟩ := MU.ne hmu
      have hown' : ∀ p ∈ own' ++ own, p.1 ∉ MU p0 p1 lg p2 x2 := by
        intro p hp
        rcases List.mem_append.mp hp with hp | hp
        · exact notIn (fa_cons (Ne.symm (lt3 gp0 p hp)) (fa_cons (Ne.symm (lt3 gp1 p hp)) (fa_cons (Ne.symm (lt3 glg p hp)) (fa_cons (Ne.symm (lt3 g204 p hp)) (fa_cons (Ne.symm (lt3 gp2 p hp)) (fa_cons (Ne.symm (lt3 gx2 p hp)) fa_nil))))))
        · exact hown p hp
      have tails : ∀ {b}, b ∈ MU p0 p1 lg p2 x2 → ∀ p ∈ own' ++ (own ++ R), p.1 ≠ b := by
        intro b hb p hp e
        rcases List.mem_append.mp hp with hp | hp
        · exact hown' p (List.mem_append_left _ hp) (e ▸ hb)
        rcases List.mem_append.mp hp with hp | hp
        · exact hown p hp (e ▸ hb)
        · exact hRn p hp (e ▸ hb)
      have ne2 : ∀ p ∈ (a, listOf (sp.2.1.map (val us0 us1)).toArray cT) :: (it, o) :: (p0, accO x0 (us0.take sp.1.1).toArray m0) :: (p1, accO x1 (us1.take sp.1.2).toArray m1') :: (lg, listOf vs'.toArray c4) :: (204, tabObj ps') :: (own' ++ (own ++ R)), p.1 ≠ p2 :=
        ne_cons (az3 gp2) (ne_cons (fun e => hni (p2, _) (by wtm_at "mm") e.symm) (ne_cons w1 (ne_cons w2 (ne_cons w3 (ne_cons w4 (tails (.tail _ (.tail _ (.tail _ (.tail _ (.head _)))))))))))
      have nx2 : ∀ p ∈ (a, listOf (sp.2.1.map (val us0 us1)).toArray cT) :: (it, o) :: (p0, accO x0 (us0.take sp.1.1).toArray m0) :: (p1, accO x1 (us1.take sp.1.2).toArray m1') :: (lg, listOf vs'.toArray c4) :: (204, tabObj ps') :: (own' ++ (own ++ R)), p.1 ≠ x2 :=
        ne_cons (az3 gx2) (ne_cons (fun e => hni (x2, od2) (by wtm_at "mm") e.symm) (ne_cons y1 (ne_cons y2 (ne_cons y3 (ne_cons y4 (tails (.tail _ (.tail _ (.tail _ (.tail _ (.tail _ (.head _))))))))))))
      have T' : T204 (own' ++ own) ps' := fun h'' ko z => hcr h'' (fun p hp => ko p (List.mem_append_left _ hp)) z (hT h'' (fun p hp => ko p (List.mem_append_right _ hp)) z)
      have hI2 : IntsAre vs' ((89 + (s1 : Int)) :: (s.2.2 ++ sp.2.2).map ent) := by rw [List.map_append]; exact hI'
      have nit : ∀ p ∈ (a, listOf (sp.2.1.map (val us0 us1)).toArray cT) :: (p0, accO x0 (us0.take sp.1.1).toArray m0) :: (p1, accO x1 (us1.take sp.1.2).toArray m1') :: (lg, listOf vs'.toArray c4) :: (204, tabObj ps') :: (p2, accO x2 (s.2.1.map (val us0 us1)).toArray n2) :: (x2, od2) :: (own' ++ (own ++ R)), p.1 ≠ it := by
        have q0 : ∀ b, (∃ o', (b, o') ∈ muL p0 p1 x0 x1 lg p2 x2 us0 us1 s n0 n1 n2 od2 vs c ps) → b ≠ it := fun b hb => let ⟨o', hb⟩ := hb; hni (b, o') (List.mem_append_left _ hb)
        have gp0' : ∃ o', (p0, o') ∈ muL p0 p1 x0 x1 lg p2 x2 us0 us1 s n0 n1 n2 od2 vs c ps := ⟨_, .head _⟩
        have gp1' : ∃ o', (p1, o') ∈ muL p0 p1 x0 x1 lg p2 x2 us0 us1 s n0 n1 n2 od2 vs c ps := ⟨_, .tail _ (.head _)⟩
        have glg' : ∃ o', (lg, o') ∈ muL p0 p1 x0 x1 lg p2 x2 us0 us1 s n0 n1 n2 od2 vs c ps := ⟨_, .tail _ (.tail _ (.head _))⟩
        have g204' : ∃ o', ((204 : Addr), o') ∈ muL p0 p1 x0 x1 lg p2 x2 us0 us1 s n0 n1 n2 od2 vs c ps := ⟨_, .tail _ (.tail _ (.tail _ (.head _)))⟩
        have gp2' : ∃ o', (p2, o') ∈ muL p0 p1 x0 x1 lg p2 x2 us0 us1 s n0 n1 n2 od2 vs c ps := ⟨_, .tail _ (.tail _ (.tail _ (.tail _ (.head _))))⟩
        have gx2' : ∃ o', (x2, o') ∈ muL p0 p1 x0 x1 lg p2 x2 us0 us1 s n0 n1 n2 od2 vs c ps := ⟨_, .tail _ (.tail _ (.tail _ (.tail _ (.tail _ (.head _)))))⟩
        refine ne_cons (az3 git) (ne_cons (q0 _ gp0') (ne_cons (q0 _ gp1') (ne_cons (q0 _ glg') (ne_cons (q0 _ g204') (ne_cons (q0 _ gp2') (ne_cons (q0 _ gx2') fun p hp => ?_))))))
        rcases List.mem_append.mp hp with hp | hp
        · exact lt3 git p hp
        · exact hni p (List.mem_append_right _ hp)
      clear old4 own4 e0 e1 elg e204 k4 K4 tg og TOk gmu sgh Gh mul nm nt N
      have F := F4
      have N := N4
      wtm_at "sts"
      intro h₅ F N
      wtm_at "go2"
      with_reducible refine r_newList F N ?_
      intro rl h₆ F N l6 z6
      have hz3 : ∀ x ∈ sp.2.1, inR s0 s1 x := fun x hx => htg x (List.mem_append_left _ hx)
      have PT := pcs_tags lp.pc0 lp.pc1 hz3
      have tr6 : ∀ a o, (a, o) ∈ tl → h₆.get? a = some o := fun a o hp => na N (.tail _ (.tail _ (.tail _ (.tail _ (.tail _ (.tail _ (.tail _ (.tail _ (.tail _ (List.mem_append_right _ (List.mem_append_right _ (hR _ hp))))))))))))
      have hok : ∀ p ∈ sp.2.1.map (pcT s0 s1), PyData.strOk p.1 = true ∧ PyData.strOk p.2 = true := by
        intro p hp
        obtain ⟨x, hx, rfl⟩ := List.mem_map.mp hp
        exact pcT_ok n0'.2.1 n0'.2.2.2.1 (hz3 x hx)
      have RT := Rd.list (na N (.tail _ (.tail _ (.tail _ (.head _))))) (Rds.pcs tr6 hok PT)
      obtain ⟨y0, yr, hy⟩ : ∃ y0 yr, sp.2.1 = y0 :: yr := by
        cases e : sp.2.1 with
        | nil => exact absurd e hTne
        | cons a b => exact ⟨a, b, rfl⟩
      rw [hy, List.map_cons, List.map_cons] at RT
      refine r_eqNil RT (Rd.list (k := 1) (na N (.head _)) Rds.nil) (by decide) (by decide) (by have := am.un; lia) ?_
      refine wpAny_truthy_bool ?_
      rw [if_neg (by decide)]
      wtm_at "go2"
      have N := News.sub (l' := (p2, accO x2 (s.2.1.map (val us0 us1)).toArray n2) :: (x2, od2) :: (a, listOf (sp.2.1.map (val us0 us1)).toArray cT) :: (it, o) :: (p0, accO x0 (us0.take sp.1.1).toArray m0) :: (p1, accO x1 (us1.take sp.1.2).toArray m1') :: (lg, listOf vs'.toArray c4) :: (204, tabObj ps') :: (own' ++ (own ++ R))) N (pm_tail pm_id)
      have I2 : Acc h₆ p2 x2 (s.2.1.map (val us0 us1)).toArray n2 od2 := ⟨na N (.head _), na N (.tail _ (.head _))⟩
      refine r_meth (G.X.keeps F.keep) MK.cls I2 MK.f_reset.1 (.inl MK.f_reset.2) (hi2.miss (by decide +kernel)) ?_
      wtm_at "go2"
      refine third_lc MK G am.hd F N (.head _) I2.dict ?_ ?_ ?_
      · with_unfolding_all exact m2
      · rw [List.length_map]; lia
      intro tl2 ct h₇ t₇ F N htl2n htl2z
      wtm_at "go2"
      refine r_addL F N (na N (.tail _ (.tail _ (.tail _ (.head _))))) (na N (.head _)) ?_ ?_
      · rw [List.length_map, List.length_map, sizeLine_eq]; lia
      intro ar h₈ F N l8 _ z8
      wtm_at "go2"
      refine ⟨Kp.fnK MK.reset (G.X.keeps F.keep), ?_⟩
      have g2 : p2 ≠ L ∧ g.get? p2 = none := (N _ (.tail _ (.tail _ (.head _)))).2
      have gx : x2 ≠ L ∧ g.get? x2 = none := (N _ (.tail _ (.tail _ (.tail _ (.head _))))).2
      have sg8 : Sub g ((h₈.hide p2).hide x2) := subHideR (subHideR F.keep g2.2) gx.2
      have I8 : Acc h₈ p2 x2 (s.2.1.map (val us0 us1)).toArray n2 od2 := ⟨na N (.tail _ (.tail _ (.head _))), na N (.tail _ (.tail _ (.tail _ (.head _))))⟩
      refine reset_spec MK (G.keeps sg8) (am.mono (by decide)) I8 hi2 (na N (.head _)) ?_ ?_
      · rw [List.length_append, List.length_map, List.length_map, sizeLine_eq]; lia
      intro h₉ t₉ n2' od2' uz k9 ep9 ex9 hi9
      have K9 : Heap.Ext' [p2, x2] h₈ h₉ := of_hides k9
      have L9 : L ∉ [p2, x2] := notIn (fa_cons g2.1 (fa_cons gx.1 fa_nil))
      have g9 : ∀ a ∈ [p2, x2], g.get? a = none := fa_cons g2.2 (fa_cons gx.2 fa_nil)
      have F9 : Fr g L h₉ _ := Fr.exts F L9 g9 K9
      have N9 : News g L h₉ ((it, o) :: (p0, accO x0 (us0.take sp.1.1).toArray m0) :: (p1, accO x1 (us1.take sp.1.2).toArray m1') :: (lg, listOf vs'.toArray c4) :: (204, tabObj ps') :: (p2, accO x2 ((sp.2.1 ++ s.2.1).map (val us0 us1)).toArray n2') :: (x2, od2') :: (own' ++ (own ++ R))) := by
        have N1 := News.sub (l' := (it, o) :: (p0, accO x0 (us0.take sp.1.1).toArray m0) :: (p1, accO x1 (us1.take sp.1.2).toArray m1') :: (lg, listOf vs'.toArray c4) :: (204, tabObj ps') :: (own' ++ (own ++ R))) N (pm_tail (pm_tail (pm_tail (pm_tail (pm_tail pm_id)))))
        have N2 := News.exts (l := [p2, x2]) N1 (fun p hp => notIn (fa_cons (Ne.symm (ne2 p (.tail _ hp))) (fa_cons (Ne.symm (nx2 p (.tail _ hp))) fa_nil))) K9
        rw [List.map_append]
        have N3 := News.cons (News.cons N2 ex9 gx.1 gx.2) ep9 g2.1 g2.2
        exact News.sub N3 (pm_cons (by wtm_at "mm") (pm_cons (by wtm_at "mm") (pm_cons (by wtm_at "mm") (pm_cons (by wtm_at "mm") (pm_cons (by wtm_at "mm") (pm_cons (by wtm_at "mm") (pm_cons (by wtm_at "mm") (pm_tail (pm_tail (pm_tail (pm_tail (pm_tail (pm_tail (pm_tail pm_id))))))))))))))
      wtm_at "go2"
      refine q _ (muL p0 p1 x0 x1 lg p2 x2 us0 us1 (sp.1, sp.2.1 ++ s.2.1, s.2.2 ++ sp.2.2) m0 m1' n2' od2' vs' c4 ps' ++ ((own' ++ own) ++ R)) h₉ _ F9 ?_ ?_ ?_ (.mk m0 m1' n2' od2' _ uz vs' c4 ps' (own' ++ own) hI2 hi9 T' hown')
      · exact hm.set (by decide +kernel) (by decide +kernel) (by decide +kernel) (by decide +kernel) (by decide +kernel)
      · rw [List.append_assoc]; exact N9
      · rw [List.append_assoc]
        have q1 : ∀ p ∈ own' ++ (own ++ R), p.1 ≠ it := fun p hp => nit p (.tail _ (.tail _ (.tail _ (.tail _ (.tail _ (.tail _ (.tail _ hp)))))))
        exact ne_cons (nit (p0, _) (by wtm_at "mm")) (ne_cons (nit (p1, _) (by wtm_at "mm")) (ne_cons (nit (lg, _) (by wtm_at "mm")) (ne_cons (nit (204, _) (by wtm_at "mm")) (ne_cons (p := (p2, _)) (nit (p2, accO x2 (s.2.1.map (val us0 us1)).toArray n2) (by wtm_at "mm")) (ne_cons (p := (x2, _)) (nit (x2, od2) (by wtm_at "mm")) q1)))))
    · rw [if_neg (by simpa using hq)]
      wtm_at "go2"
      rw [if_neg (by decide)]
      wtm_at "go2"
      have et : turnP (fun i => K0.getD i 0) (fun i => K1.getD i 0) s = s := by unfold turnP; rw [if_neg (fun z => hq z.2)]
      exact q _ _ _ _ F hm N hni (by rw [et]; exact (LoopI.mk n0 n1 n2 od2 j2 u2 vs c ps own hI hi2 hT hown))
  · rw [if_neg (by simpa using hp)]
    wtm_at "go2"
    rw [if_neg (by decide)]
    wtm_at "go2"
    have et : turnP (fun i => K0.getD i 0) (fun i => K1.getD i 0) s = s := by unfold turnP; rw [if_neg (fun z => hp z.1)]
    exact q _ _ _ _ F hm N hni (by rw [et]; exact (LoopI.mk n0 n1 n2 od2 j2 u2 vs c ps own hI hi2 hT hown))
set_option maxHeartbeats 2000000 in
theorem law18 (LN : LawN K) (LF : LawF K) (G : Gd K mg mb g) (am : Amb A 29) (C : CodeHd g 208 204) (B : g.BuiltinsAt mg 204) {s0 s1 base head : Nat} {K0 K1 : List Int} {lg kl r0 r1 ml tell pl p0 p1 x0 x1 p2 x2 : Addr} {us0 us1 : List Value} {tl R : List (Addr × Obj)} {gs : Array GenState}
    (lt : LawT L s0 s1 base head K0 K1 lg kl r0 r1 ml tell tl) (lp : LawP head s0 s1 p0 p1 x0 x1 pl us0 us1 tl) (hR : ∀ p ∈ tl, p ∈ R) (hRn : ∀ p ∈ R, p.1 ∉ MU p0 p1 lg p2 x2) (hmu : (MU p0 p1 lg p2 x2).Nodup)
    (hk0 : ∀ i j, i ≤ j → j < s0 → K0.getD i 0 ≤ K0.getD j 0) (hk1 : ∀ i j, i ≤ j → j < s1 → K1.getD i 0 ≤ K1.getD j 0)
    (F : Fr g L h m) (hm : MOk pl p2 tell ml base m) {news : List (Addr × Obj)} (N : News g L h news) (hJ : LoopI s1 p0 p1 x0 x1 lg p2 x2 us0 us1 R ((s0, s1), [], []) news) {Q : Flow → Shared → Prop}
    (q : ∀ news' h' t' m', Fr g L h' m' → MOk pl p2 tell ml base m' → News g L h' news' → LoopI s1 p0 p1 x0 x1 lg p2 x2 us0 us1 R (runP (fun i => K0.getD i 0) (fun i => K1.getD i 0) s0 s1 (s0 + s1)) news' →
      wpAny (model PW w) A (execs (b_law.drop 19) (lEnv L)) Q E ⟨h', gs, d, t', os⟩) :
    wpAny (model PW w) A (execs (b_law.drop 18) (lEnv L)) Q E ⟨h, gs, d, t, os⟩ := by
  have mem0 : ∀ {p}, p ∈ tl → p ∈ news := by
    obtain ⟨n0, n1, n2, od2, j2, u2, vs, c, ps, own, -, -, -, -⟩ := hJ
    intro p hp
    exact List.mem_append_right _ (List.mem_append_right _ (hR p hp))
  obtain ⟨sl, o2, u0, u1, cs, h2, e2, hsl⟩ := lt.e2
  refine wpAny_execs_cons ?_
  wtm_at "go2"
  with_reducible refine nm_B F G LN.nRange bb_range ?_
  wtm_at "go2"
  with_reducible refine nm_B F G LN.nSum bb_sum ?_
  wtm_at "go2"
  refine nm_C (na N (mem0 h2)) e2 ?_
  wtm_at "go2"
  refine r_sum am.hd F N (na N (mem0 hsl)) (.cons _ _ (.cons _ _ .nil)) ?_
  intro h₂ t₂ t₂' F N
  wtm_at "go2"
  with_reducible refine r_range1 F N ?_
  intro r h₄ ta tb tc F N lr tk
  have esum : [((s0 : Nat) : Int), ((s1 : Nat) : Int)].sum = ((s0 + s1 : Nat) : Int) := by simp
  rw [esum] at N
  have n0' := lt.n0
  refine r_iterRange (s0 + s1) F N (N.get (.head _)) ?_ ?_ ?_ ?_
  · lia
  · lia
  · lia
  intro it h₅ F N lit
  have N := News.sub (l' := (it, _) :: news) N (pm_cons (.head _) (pm_tail (pm_tail pm_id)))
  have hnit : ∀ p ∈ news, p.1 ≠ it := fun p hp => Nat.ne_of_lt (lit p (.tail _ hp))
  have fin : ∀ i, (runP (fun i => K0.getD i 0) (fun i => K1.getD i 0) s0 s1 i).1.1 ≤ s0 ∧ (runP (fun i => K0.getD i 0) (fun i => K1.getD i 0) s0 s1 i).1.2 ≤ s1 ∧ (runP (fun i => K0.getD i 0) (fun i => K1.getD i 0) s0 s1 i).2.2.length ≤ 1000 ∧ (∀ x ∈ (runP (fun i => K0.getD i 0) (fun i => K1.getD i 0) s0 s1 i).2.1, inR s0 s1 x) ∧ (runP (fun i => K0.getD i 0) (fun i => K1.getD i 0) s0 s1 i).2.1.length ≤ 100 := by
    intro i
    obtain ⟨I, -⟩ := run_inv (k0 := fun i => K0.getD i 0) (k1 := fun i => K1.getD i 0) (m := s0) (n := s1) hk0 hk1 (by lia) (by lia) i
    have hl := run_lenT (fun i => K0.getD i 0) (fun i => K1.getD i 0) s0 s1 i
    have hb := bnd_le (p := s0) (q := s1) (by lia) (by lia)
    have hc := I.cnt
    refine ⟨I.hp, I.hq, by lia, fun x hx => ?_, by lia⟩
    rcases (I.mem x).mp hx with ⟨e, -, h⟩ | ⟨e, -, h⟩
    · exact .inl ⟨e, h⟩
    · exact .inr ⟨e, h⟩
  refine loop_for (Iter.range 0 (s0 + s1)) am.hd (fun i m news gs' => Gs gs (MOk pl p2 tell ml base m ∧ LoopI s1 p0 p1 x0 x1 lg p2 x2 us0 us1 R (runP (fun i => K0.getD i 0) (fun i => K1.getD i 0) s0 s1 i) news) gs')
    (fun zz zz zz zz zz zz zz zz => trivial) ?_ ?_ ⟨hm, hJ⟩ F N hnit rfl
  · intro i m news gs' h t o v hi zq9 zq10 _ F N hne
    obtain ⟨hm, hJ⟩ := zq9
    obtain ⟨ti, rfl⟩ := zq10
    refine wpAny_pure ?_
    wtm_at "go2"
    wtm_at "sts"
    intro h₆ F N
    show wpAny _ _ (execs bodyL (lEnv L)) _ _ _
    have f1 := fin i
    have f2 := fin (i + 1)
    refine turn18 (s := runP (fun i => K0.getD i 0) (fun i => K1.getD i 0) s0 s1 i) LN LF G am C B lt lp hR hRn hmu f1.1 f1.2.1 f1.2.2.1 f2.2.2.2.1 f2.2.2.2.2 F (hm.set (by decide +kernel) (by decide +kernel) (by decide +kernel) (by decide +kernel) (by decide +kernel)) N hne hJ ?_
    intro m' news' h' t' F' hm' N' hne' hJ'
    exact ⟨m', news', _, h', t', F', N', hne', hm', hJ'⟩
  · intro m news gs' h t zq5 F N
    obtain ⟨hm, hJ⟩ := zq5
    refine wpAny_execs_nil ?_
    exact q news h t m F hm N hJ
end
end Mine
end
-- L12
section
namespace Mine
section
variable {w : World} {A : Around} {E : Value → Shared → Prop} {K : Frag} {mg mb : Str → Option Value} {h g : Heap} {gs : Array GenState} {d : Drawn} {t : Nat} {os : OsState} {L : Addr} {m : Str → Option Value}
set_option maxHeartbeats 4000000 in
theorem law19 (LN : LawN K) (LF : LawF K) (G : Gd K mg mb g) (am : Amb A 29) {s0 s1 base head : Nat} {lg ml tell pl p0 p1 x0 x1 p2 x2 : Addr} {us0 us1 : List Value} {tl R : List (Addr × Obj)} {s : PSt}
    (lp : LawP head s0 s1 p0 p1 x0 x1 pl us0 us1 tl) (a0 : s0 ≤ 9) (a1 : s1 ≤ 9) (hR : ∀ p ∈ tl, p ∈ R) (hRn : ∀ p ∈ R, p.1 ∉ MU p0 p1 lg p2 x2) (hmu : (MU p0 p1 lg p2 x2).Nodup)
    (hs0 : s.1.1 ≤ s0) (hs1 : s.1.2 ≤ s1) (hl3 : s.2.1.length ≤ 100)
    (F : Fr g L h m) (hm : MOk pl p2 tell ml base m) {news : List (Addr × Obj)} (N : News g L h news) (hJ : LoopI s1 p0 p1 x0 x1 lg p2 x2 us0 us1 R s news) {Q : Flow → Shared → Prop}
    (q : ∀ n0 n1 n2 od2 u2 vs c ps h' t', Fr g L h' m → News g L h' ((p0, accO x0 ([] : List Value).toArray n0) :: (p1, accO x1 ([] : List Value).toArray n1) :: (p2, accO x2 ((allP s).map (val us0 us1)).toArray n2) :: (x2, od2) :: (lg, listOf (List.toArray vs) c) :: (204, tabObj ps) :: R) → IntsAre vs ((89 + (s1 : Int)) :: s.2.2.map ent) → IniD od2 (.int 0 u2) →
      wpAny (model PW w) A (execs (b_law.drop 20) (lEnv L)) Q E ⟨h', gs, d, t', os⟩) :
    wpAny (model PW w) A (execs (b_law.drop 19) (lEnv L)) Q E ⟨h, gs, d, t, os⟩ := by
  obtain ⟨n0, n1, n2, od2, j2, u2, vs, c, ps, own, hI, hi2, hT, hown⟩ := hJ
  obtain ⟨cpl, epl⟩ := lp.epl
  obtain ⟨od0, v0, ex0, hi0⟩ := lp.ex0
  obtain ⟨od1, v1, ex1, hi1⟩ := lp.ex1
  have MK := LF.tkn.meth
  have m1 := hm.a
  have m2 := hm.b
  have hl0 : us0.length = s0 := by rw [Pcs.length lp.pc0, piecesOf_len]
  have hl1 : us1.length = s1 := by rw [Pcs.length lp.pc1, piecesOf_len]
  have ht0 : (us0.take s.1.1).length = s.1.1 := by rw [List.length_take]; lia
  have ht1 : (us1.take s.1.2).length = s.1.2 := by rw [List.length_take]; lia
  obtain ⟨⟨w1, w2, w3, w4⟩, ⟨y1, y2, y3, y4⟩, w5, v01, v0l, v1l, v04, v14, -⟩ := MU.ne hmu
  have N : News g L h ((p0, accO x0 (us0.take s.1.1).toArray n0) :: (p1, accO x1 (us1.take s.1.2).toArray n1) :: (p2, accO x2 (s.2.1.map (val us0 us1)).toArray n2) :: (x2, od2) :: (lg, listOf vs.toArray c) :: ((204, tabObj ps) :: R)) :=
    News.sub N (pm_cons (by wtm_at "mm") (pm_cons (by wtm_at "mm") (pm_cons (by wtm_at "mm") (pm_cons (by wtm_at "mm") (pm_cons (by wtm_at "mm") (pm_cons (by wtm_at "mm") fun p hp => List.mem_append_right _ (List.mem_append_right _ hp)))))))
  have Rne : ∀ {b}, b ∈ [p0, p1, p2, x2] → ∀ p ∈ (204, tabObj ps) :: R, p.1 ≠ b := by
    intro b hb p hp
    simp only [List.mem_cons, List.not_mem_nil, or_false] at hb
    rcases List.mem_cons.mp hp with rfl | hp
    · rcases hb with rfl | rfl | rfl | rfl
      · exact Ne.symm v04
      · exact Ne.symm v14
      · exact w4
      · exact y4
    · intro e
      refine hRn p hp (e ▸ ?_)
      rcases hb with rfl | rfl | rfl | rfl <;> wtm_at "mm"
  have hR : ∀ p ∈ tl, p ∈ (204, tabObj ps) :: R := fun p hp => .tail _ (hR p hp)
  have q := fun n0 n1 n2 od2 u2 vs c h' t' => q n0 n1 n2 od2 u2 vs c ps h' t'
  generalize (204, tabObj ps) :: R = R at N Rne hR q
  have m5 : ∀ {a b c d e : Addr × Obj} {p}, p ∈ tl → p ∈ a :: b :: c :: d :: e :: R := fun hp => .tail _ (.tail _ (.tail _ (.tail _ (.tail _ (hR _ hp)))))
  have m6 : ∀ {a b c d e f : Addr × Obj} {p}, p ∈ tl → p ∈ a :: b :: c :: d :: e :: f :: R := fun hp => .tail _ (m5 hp)
  refine wpAny_execs_cons ?_
  wtm_at "go2"
  have I2 : Acc h p2 x2 (s.2.1.map (val us0 us1)).toArray n2 od2 := ⟨na N (by wtm_at "mm"), na N (by wtm_at "mm")⟩
  refine r_meth (G.X.keeps F.keep) MK.cls I2 MK.f_reset.1 (.inl MK.f_reset.2) (hi2.miss (by decide +kernel)) ?_
  wtm_at "go2"
  with_reducible refine r_subL (na N (m5 epl)) (x := .ref p0) (by decide) (by decide) rfl ?_
  wtm_at "go2"
  have I0 : Acc h p0 x0 (us0.take s.1.1).toArray n0 od0 := ⟨na N (by wtm_at "mm"), na N (m5 ex0)⟩
  refine r_meth (G.X.keeps F.keep) MK.cls I0 MK.f_popf.1 (.inl MK.f_popf.2) (hi0.miss (by decide +kernel)) ?_
  wtm_at "go2"
  refine ⟨Kp.fnK MK.popf (G.X.keeps F.keep), ?_⟩
  have g0 := (N _ (.head _)).2
  refine popf_spec MK (G.keeps (subHideR F.keep g0.2)) (am.mono (by decide)) I0 hi0 (by rw [ht0, sizeLine_eq]; lia) (i := 0) (Nat.zero_le _) ?_
  intro a3 h₃ t₃ n0' c3 k3 z3 e3 ep3
  have F3 := Fr.ext F g0.1 g0.2 (of_hide' k3)
  have a3n : a3 ≠ L ∧ g.get? a3 = none := ⟨Nat.ne_of_gt (Nat.lt_of_lt_of_le (Fr.lt F) z3), none_of_size (Nat.le_trans (Fr.szle F) z3)⟩
  have N3 := News.ext (News.sub N (pm_tail pm_id)) (ne_cons (Ne.symm v01) (ne_cons (Ne.symm w1) (ne_cons (Ne.symm y1) (ne_cons (Ne.symm v0l) (Rne (by wtm_at "mm")))))) (of_hide' k3)
  have N := News.cons (News.cons N3 ep3 g0.1 g0.2) e3 a3n.1 a3n.2
  rw [List.drop_zero, List.take_zero] at N
  have F := F3
  wtm_at "go2"
  with_reducible refine r_subL (na N (m6 epl)) (x := .ref p1) (by decide) (by decide) rfl ?_
  wtm_at "go2"
  have I1 : Acc h₃ p1 x1 (us1.take s.1.2).toArray n1 od1 := ⟨na N (by wtm_at "mm"), na N (m6 ex1)⟩
  refine r_meth (G.X.keeps F.keep) MK.cls I1 MK.f_popf.1 (.inl MK.f_popf.2) (hi1.miss (by decide +kernel)) ?_
  wtm_at "go2"
  refine ⟨Kp.fnK MK.popf (G.X.keeps F.keep), ?_⟩
  have g1 := (N _ (.tail _ (.tail _ (.head _)))).2
  refine popf_spec MK (G.keeps (subHideR F.keep g1.2)) (am.mono (by decide)) I1 hi1 (by rw [ht1, sizeLine_eq]; lia) (i := 0) (Nat.zero_le _) ?_
  intro a4 h₄ t₄ n1' c4 k4 z4 e4 ep4
  have F4 := Fr.ext F g1.1 g1.2 (of_hide' k4)
  have a4n : a4 ≠ L ∧ g.get? a4 = none := ⟨Nat.ne_of_gt (Nat.lt_of_lt_of_le (Fr.lt F) z4), none_of_size (Nat.le_trans (Fr.szle F) z4)⟩
  have a3p1 : a3 ≠ p1 := ne_of_get (na N (.head _)) (na N (.tail _ (.tail _ (.head _)))) (by intro e; cases e)
  have N4 := News.ext (News.sub (l' := (a3, listOf (us0.take s.1.1).toArray c3) :: (p0, accO x0 ([] : List Value).toArray n0') :: (p2, accO x2 (s.2.1.map (val us0 us1)).toArray n2) :: (x2, od2) :: (lg, listOf vs.toArray c) :: R) N (pm_cons (by wtm_at "mm") (pm_cons (by wtm_at "mm") (pm_tail (pm_tail (pm_tail pm_id)))))) (ne_cons a3p1 (ne_cons v01 (ne_cons (Ne.symm w2) (ne_cons (Ne.symm y2) (ne_cons (Ne.symm v1l) (Rne (by wtm_at "mm"))))))) (of_hide' k4)
  have N := News.cons (News.cons N4 ep4 g1.1 g1.2) e4 a4n.1 a4n.2
  rw [List.drop_zero, List.take_zero] at N
  have F := F4
  wtm_at "go2"
  refine r_addL F N (na N (.tail _ (.tail _ (.head _)))) (na N (.head _)) (by rw [ht0, ht1, sizeLine_eq]; lia) ?_
  intro r5 h₅ F N l5 _ _
  wtm_at "go2"
  refine third_lc MK G am.hd F N (x := p2) (dx := x2) (its := s.2.1.map (val us0 us1)) (n := n2) (od := od2) (by wtm_at "mm") (na N (by wtm_at "mm")) m2 (by rw [List.length_map]; lia) ?_
  intro tl2 ct h₆ t₆ F N htl2n htl2z
  wtm_at "go2"
  refine r_addL F N (na N (.tail _ (.head _))) (na N (.head _)) ?_ ?_
  · rw [List.length_append, ht0, ht1, List.length_map, sizeLine_eq]; lia
  intro ar h₇ F N l8 _ z8
  wtm_at "go2"
  refine ⟨Kp.fnK MK.reset (G.X.keeps F.keep), ?_⟩
  have g2 : p2 ≠ L ∧ g.get? p2 = none := (N (p2, accO x2 (s.2.1.map (val us0 us1)).toArray n2) (by wtm_at "mm")).2
  have gx : x2 ≠ L ∧ g.get? x2 = none := (N (x2, od2) (by wtm_at "mm")).2
  have sg8 : Sub g ((h₇.hide p2).hide x2) := subHideR (subHideR F.keep g2.2) gx.2
  have I8 : Acc h₇ p2 x2 (s.2.1.map (val us0 us1)).toArray n2 od2 := ⟨na N (by wtm_at "mm"), na N (by wtm_at "mm")⟩
  refine reset_spec MK (G.keeps sg8) (am.mono (by decide)) I8 hi2 (na N (.head _)) ?_ ?_
  · rw [List.length_append, List.length_append, ht0, ht1, List.length_map, sizeLine_eq]; lia
  intro h₉ t₉ n2' od2' uz k9 ep9 ex9 hi9
  have K9 : Heap.Ext' [p2, x2] h₇ h₉ := of_hides k9
  have L9 : L ∉ [p2, x2] := notIn (fa_cons g2.1 (fa_cons gx.1 fa_nil))
  have g9 : ∀ a ∈ [p2, x2], g.get? a = none := fa_cons g2.2 (fa_cons gx.2 fa_nil)
  have F9 : Fr g L h₉ _ := Fr.exts F L9 g9 K9
  have eall : us0.take s.1.1 ++ us1.take s.1.2 ++ s.2.1.map (val us0 us1) = (allP s).map (val us0 us1) := by
    have e0 := seg_val0 us0 us1 0 s.1.1 (by lia)
    have e1 := seg_val1 us0 us1 0 s.1.2 (by lia)
    rw [List.drop_zero] at e0 e1
    rw [e0, e1]
    simp [allP]
  rw [eall] at ep9
  have N1 := News.sub (l' := (p0, accO x0 ([] : List Value).toArray n0') :: (p1, accO x1 ([] : List Value).toArray n1') :: (lg, listOf vs.toArray c) :: R) N (pm_cons (by wtm_at "mm") (pm_cons (by wtm_at "mm") (pm_cons (by wtm_at "mm") fun p hp => .tail _ (.tail _ (.tail _ (.tail _ (.tail _ (.tail _ (.tail _ (.tail _ (.tail _ (.tail _ hp)))))))))))) 
  have N2 := News.exts (l := [p2, x2]) N1 (fun p hp => notIn (fa_cons (Ne.symm (ne_cons w1 (ne_cons w2 (ne_cons w3 (Rne (by wtm_at "mm")))) p hp)) (fa_cons (Ne.symm (ne_cons y1 (ne_cons y2 (ne_cons y3 (Rne (by wtm_at "mm")))) p hp)) fa_nil))) K9
  have N3 := News.cons (News.cons N2 ex9 gx.1 gx.2) ep9 g2.1 g2.2
  show wpAny _ _ (execs (b_law.drop 20) (lEnv L)) _ _ _
  refine q n0' n1' n2' od2' uz vs c h₉ _ F9 (News.sub N3 (pm_cons (by wtm_at "mm") (pm_cons (by wtm_at "mm") (pm_cons (by wtm_at "mm") (pm_cons (by wtm_at "mm") (pm_cons (by wtm_at "mm") (pm_tail (pm_tail (pm_tail (pm_tail (pm_tail pm_id))))))))))) hI hi9
end
end Mine
end
-- S1
section
namespace Mine
/-! the sort keeps the order of equal keys -/
section
variable (ρ : Value → Nat)
noncomputable def R (xs : Array Keyed) (i : Nat) : Nat := match xs[i]? with
  | some p => ρ p.2
  | none => 0
theorem R_congr {xs ys : Array Keyed} {i j : Nat} (h : xs[i]? = ys[j]?) : R ρ xs i = R ρ ys j := by unfold R; rw [h]
theorem R_bubble {xs : Array Keyed} {src d : Nat} (hs : src < xs.size) (hd : d ≤ src) (k : Nat) :
    R ρ (bubble xs src d) k = if k = src - d then R ρ xs src else if src - d < k ∧ k ≤ src then R ρ xs (k - 1) else R ρ xs k := by
  have e := getElem?_bubble hs d hd k
  by_cases h1 : k = src - d
  · rw [if_pos h1] at e ⊢; exact R_congr ρ e
  · rw [if_neg h1] at e ⊢
    by_cases h2 : src - d < k ∧ k ≤ src
    · rw [if_pos h2] at e ⊢; exact R_congr ρ e
    · rw [if_neg h2] at e ⊢; exact R_congr ρ e
theorem R_mirror {xs : Array Keyed} {i j : Nat} (hj : j ≤ xs.size) (k : Nat) : R ρ (mirror xs i j ((j - i) / 2)) k = if i ≤ k ∧ k < j then R ρ xs (i + j - 1 - k) else R ρ xs k := by
  have e := getElem?_mirror_all (i := i) hj k
  by_cases h1 : i ≤ k ∧ k < j
  · rw [if_pos h1] at e ⊢; exact R_congr ρ e
  · rw [if_neg h1] at e ⊢; exact R_congr ρ e
structure SS (xs : Array Keyed) (k N : Nat) : Prop where
  ord : ∀ i j, i < j → j < k → K xs i < K xs j ∨ (K xs i = K xs j ∧ R ρ xs i < R ρ xs j)
  lo : ∀ i, i < k → R ρ xs i < k
  hi : ∀ i, k ≤ i → i < N → R ρ xs i = i
variable {ρ}
theorem q2 {a b a' b' : Int} {r s r' s' : Nat} (e : a = a' ∧ r = r') (f : b = b' ∧ s = s') (h : a' < b' ∨ (a' = b' ∧ r' < s')) : a < b ∨ (a = b ∧ r < s) := by rw [e.1, e.2, f.1, f.2]; exact h
theorem mr_lt {a n i j : Nat} (h : i < j) (hj : j < n) : a + n - 1 - j < a + n - 1 - i := Nat.sub_lt_sub_left (Nat.lt_of_lt_of_le h (Nat.le_sub_one_of_lt (Nat.lt_of_lt_of_le hj (Nat.le_add_left n a)))) h
theorem mr_lo {a n i : Nat} (h : i < n) : a ≤ a + n - 1 - i := Nat.le_sub_of_add_le (Nat.le_sub_one_of_lt (Nat.add_lt_add_left h a))
theorem mr_hi {a n i : Nat} (h : a ≤ i) (h2 : i < n) : a + n - 1 - i < n := by
  have h3 : 1 ≤ n := Nat.lt_of_le_of_lt (Nat.zero_le i) h2
  refine Nat.lt_of_le_of_lt (Nat.sub_le_sub_left h _) ?_
  rw [Nat.add_sub_assoc h3, Nat.add_sub_cancel_left]
  exact Nat.sub_lt h3 Nat.one_pos
theorem pred_lt' {l j k : Nat} (h : l < j) (h2 : j < k + 1) : j - 1 < k := Nat.lt_of_lt_of_le (Nat.sub_lt (Nat.lt_of_le_of_lt (Nat.zero_le _) h) Nat.one_pos) (Nat.le_of_lt_succ h2)
theorem mir_in {xs : Array Keyed} {a x k : Nat} (hx : x ≤ xs.size) (h1 : a ≤ k) (h2 : k < x) : K (mirror xs a x ((x - a) / 2)) k = K xs (a + x - 1 - k) ∧ R ρ (mirror xs a x ((x - a) / 2)) k = R ρ xs (a + x - 1 - k) :=
  ⟨by rw [K_mirror hx, if_pos ⟨h1, h2⟩], by rw [R_mirror ρ hx, if_pos ⟨h1, h2⟩]⟩
theorem mir_out {xs : Array Keyed} {a x k : Nat} (hx : x ≤ xs.size) (h : ¬ (a ≤ k ∧ k < x)) : K (mirror xs a x ((x - a) / 2)) k = K xs k ∧ R ρ (mirror xs a x ((x - a) / 2)) k = R ρ xs k :=
  ⟨by rw [K_mirror hx, if_neg h], by rw [R_mirror ρ hx, if_neg h]⟩
theorem bub_at {xs : Array Keyed} {k l i : Nat} (hk : k < xs.size) (hl : l ≤ k) (h : i = l) : K (bubble xs k (k - l)) i = K xs k ∧ R ρ (bubble xs k (k - l)) i = R ρ xs k := by
  rw [K_bubble hk (Nat.sub_le _ _), R_bubble ρ hk (Nat.sub_le _ _), Nat.sub_sub_self hl, if_pos h, if_pos h]
  exact ⟨rfl, rfl⟩
theorem bub_in {xs : Array Keyed} {k l i : Nat} (hk : k < xs.size) (hl : l ≤ k) (h : l < i) (h2 : i ≤ k) : K (bubble xs k (k - l)) i = K xs (i - 1) ∧ R ρ (bubble xs k (k - l)) i = R ρ xs (i - 1) := by
  rw [K_bubble hk (Nat.sub_le _ _), R_bubble ρ hk (Nat.sub_le _ _), Nat.sub_sub_self hl, if_neg (Nat.ne_of_gt h), if_neg (Nat.ne_of_gt h), if_pos ⟨h, h2⟩, if_pos ⟨h, h2⟩]
  exact ⟨rfl, rfl⟩
theorem bub_out {xs : Array Keyed} {k l i : Nat} (hk : k < xs.size) (hl : l ≤ k) (h : ¬ i = l) (h2 : ¬ (l < i ∧ i ≤ k)) : K (bubble xs k (k - l)) i = K xs i ∧ R ρ (bubble xs k (k - l)) i = R ρ xs i := by
  rw [K_bubble hk (Nat.sub_le _ _), R_bubble ρ hk (Nat.sub_le _ _), Nat.sub_sub_self hl, if_neg h, if_neg h, if_neg h2, if_neg h2]
  exact ⟨rfl, rfl⟩
theorem SS.le {xs : Array Keyed} {k N : Nat} (s : SS ρ xs k N) {i j : Nat} (hij : i ≤ j) (hj : j < k) : K xs i ≤ K xs j := by
  rcases Nat.lt_or_ge i j with h | h
  · exact (s.ord i j h hj).elim Int.le_of_lt fun e => Int.le_of_eq e.1
  · rw [Nat.le_antisymm hij h]; exact Int.le_refl _
structure DD (ρ : Value → Nat) (xs : Array Keyed) (k N : Nat) : Prop where
  ord : ∀ i j, i < j → j < k → K xs j < K xs i ∨ (K xs j = K xs i ∧ R ρ xs j < R ρ xs i)
  lo : ∀ i, i < k → R ρ xs i < k
  hi : ∀ i, k ≤ i → i < N → R ρ xs i = i
structure DE (ρ : Value → Nat) (xs : Array Keyed) (x q N : Nat) : Prop where
  hq : q + 1 ≤ x
  i1 : ∀ i j, i < j → j + (q + 1) < x → K xs j < K xs i ∨ (K xs j = K xs i ∧ R ρ xs j < R ρ xs i)
  i2 : ∀ i j, i + (q + 1) < x → x ≤ j + (q + 1) → j < x → K xs j < K xs i
  i3 : ∀ i j, x ≤ i + (q + 1) → i < j → j < x → K xs i = K xs j ∧ R ρ xs i < R ρ xs j
  lo : ∀ i, i < x → R ρ xs i < x
  hi : ∀ i, x ≤ i → i < N → R ρ xs i = i
theorem DE.turn {xs : Array Keyed} {x q N : Nat} (s : DE ρ xs x q N) (hx : x ≤ xs.size) : DD ρ (mirror xs (x - (q + 1)) x ((x - (x - (q + 1))) / 2)) x N := by
  have ha : x - (q + 1) + (q + 1) = x := Nat.sub_add_cancel s.hq
  generalize x - (q + 1) = a at ha ⊢
  have L1 : ∀ {j}, j < a → j + (q + 1) < x := fun h => Nat.lt_of_lt_of_eq (Nat.add_lt_add_right h _) ha
  have L2 : ∀ {j}, a ≤ j → x ≤ j + (q + 1) := fun h => Nat.le_trans (Nat.le_of_eq ha.symm) (Nat.add_le_add_right h _)
  refine ⟨fun i j hij hj => ?_, fun i hi => ?_, fun i h1 h2 => ?_⟩
  · by_cases h1 : a ≤ i
    · exact q2 (mir_in hx (Nat.le_trans h1 (Nat.le_of_lt hij)) hj) (mir_in hx h1 (Nat.lt_trans hij hj)) (.inr (s.i3 (a + x - 1 - j) (a + x - 1 - i) (L2 (mr_lo hj)) (mr_lt hij hj) (mr_hi h1 (Nat.lt_trans hij hj))))
    · have mi := mir_out (ρ := ρ) hx (a := a) (k := i) fun h => h1 h.1
      by_cases h2 : a ≤ j
      · exact q2 (mir_in hx h2 hj) mi (.inl (s.i2 i _ (L1 (Nat.lt_of_not_le h1)) (L2 (mr_lo hj)) (mr_hi h2 hj)))
      · exact q2 (mir_out hx fun h => h2 h.1) mi (s.i1 i j hij (L1 (Nat.lt_of_not_le h2)))
  · by_cases h : a ≤ i
    · rw [(mir_in hx h hi).2]; exact s.lo _ (mr_hi h hi)
    · rw [(mir_out hx fun c => h c.1).2]; exact s.lo _ hi
  · rw [(mir_out hx fun c => Nat.not_lt.mpr h1 c.2).2]
    exact s.hi i h1 h2
theorem DE.stay {xs : Array Keyed} {x N : Nat} (s : DE ρ xs x 0 N) : DD ρ xs x N := by
  refine ⟨fun i j hij hj => ?_, s.lo, s.hi⟩
  by_cases h : j + 1 < x
  · exact s.i1 i j hij h
  · exact .inl (s.i2 i j (Nat.lt_of_le_of_lt hij hj) (Nat.le_of_not_lt h) hj)
theorem DE.eq {xs : Array Keyed} {x q N : Nat} (s : DE ρ xs x q N) {i : Nat} (h1 : x ≤ i + (q + 1)) (h2 : i < x) : K xs i = K xs (x - 1) := by
  rcases Nat.lt_or_ge i (x - 1) with h | h
  · exact (s.i3 i (x - 1) h1 h (Nat.sub_lt (Nat.lt_of_lt_of_le (Nat.succ_pos q) s.hq) Nat.one_pos)).1
  · rw [Nat.le_antisymm (Nat.le_sub_one_of_lt h2) h]
theorem DD.ge {xs : Array Keyed} {k N : Nat} (s : DD ρ xs k N) {i j : Nat} (hij : i ≤ j) (hj : j < k) : K xs j ≤ K xs i := by
  rcases Nat.lt_or_ge i j with h | h
  · exact (s.ord i j h hj).elim Int.le_of_lt fun e => Int.le_of_eq e.1
  · rw [Nat.le_antisymm hij h]; exact Int.le_refl _
theorem lo_next {f : Nat → Nat} {x N i : Nat} (lo : ∀ i, i < x → f i < x) (hi : ∀ i, x ≤ i → i < N → f i = i) (hx : x < N) (a : i < x + 1) : f i < x + 1 := by
  rcases Nat.lt_or_ge i x with h | h
  · exact Nat.lt_succ_of_lt (lo i h)
  · rw [hi i h (Nat.lt_of_le_of_lt (Nat.le_of_lt_succ a) hx)]; exact a
theorem DD.next {xs : Array Keyed} {x N : Nat} (s : DD ρ xs x N) (hx : x < N) (h1 : 1 ≤ x) (hk : K xs x < K xs (x - 1)) : DE ρ xs (x + 1) 0 N := by
  refine ⟨Nat.succ_le_succ (Nat.zero_le x), fun i j a b => s.ord i j a (Nat.lt_of_succ_lt_succ b), fun i j a b c => ?_, fun i j a b c => absurd (Nat.lt_of_le_of_lt (Nat.le_of_succ_le_succ a) b) (Nat.not_lt.mpr (Nat.le_of_lt_succ c)), fun i a => lo_next s.lo s.hi hx a, fun i a b => s.hi i (Nat.le_of_succ_le a) b⟩
  rw [Nat.le_antisymm (Nat.le_of_lt_succ c) (Nat.le_of_succ_le_succ b)]
  exact Int.lt_of_lt_of_le hk (s.ge (Nat.le_sub_one_of_lt (Nat.lt_of_succ_lt_succ a)) (Nat.sub_lt h1 Nat.one_pos))
theorem DD.back {xs : Array Keyed} {n N : Nat} (s : DD ρ xs n N) (hn : n ≤ xs.size) : SS ρ (mirror xs 0 n ((n - 0) / 2)) n N := by
  refine ⟨fun i j hij hj => ?_, fun i hi => ?_, fun i h1 h2 => ?_⟩
  · exact q2 (mir_in hn (Nat.zero_le _) (Nat.lt_trans hij hj)) (mir_in hn (Nat.zero_le _) hj) (s.ord (0 + n - 1 - j) (0 + n - 1 - i) (mr_lt hij hj) (mr_hi (Nat.zero_le _) (Nat.lt_trans hij hj)))
  · rw [(mir_in hn (Nat.zero_le _) hi).2]; exact s.lo _ (mr_hi (Nat.zero_le _) hi)
  · rw [(mir_out hn fun c => Nat.not_lt.mpr h1 c.2).2]
    exact s.hi i h1 h2
theorem SS.next {xs : Array Keyed} {x N : Nat} (s : SS ρ xs x N) (hx : x < N) (h1 : 1 ≤ x) (hk : ¬ K xs x < K xs (x - 1)) : SS ρ xs (x + 1) N := by
  refine ⟨fun i j a b => ?_, fun i a => lo_next s.lo s.hi hx a, fun i a b => s.hi i (Nat.le_of_succ_le a) b⟩
  rcases Nat.lt_or_ge j x with h | h
  · exact s.ord i j a h
  · have := Nat.le_antisymm (Nat.le_of_lt_succ b) h
    subst this
    exact (Int.lt_or_eq_of_le (Int.le_trans (s.le (Nat.le_sub_one_of_lt a) (Nat.sub_lt h1 Nat.one_pos)) (Int.not_lt.mp hk))).imp id fun e => ⟨e, by rw [s.hi j (Nat.le_refl _) hx]; exact s.lo i a⟩
theorem SS.turn {xs : Array Keyed} {n N : Nat} (s : SS ρ xs n N) (hn : n ≤ xs.size) : DD ρ (mirror xs 0 n ((n - 0) / 2)) n N := by
  refine ⟨fun i j hij hj => ?_, fun i hi => ?_, fun i h1 h2 => ?_⟩
  · exact q2 (mir_in hn (Nat.zero_le _) hj) (mir_in hn (Nat.zero_le _) (Nat.lt_trans hij hj)) (s.ord (0 + n - 1 - j) (0 + n - 1 - i) (mr_lt hij hj) (mr_hi (Nat.zero_le _) (Nat.lt_trans hij hj)))
  · rw [(mir_in hn (Nat.zero_le _) hi).2]; exact s.lo _ (mr_hi (Nat.zero_le _) hi)
  · rw [(mir_out hn fun c => Nat.not_lt.mpr h1 c.2).2]
    exact s.hi i h1 h2
theorem SS.put {xs : Array Keyed} {k l N : Nat} (s : SS ρ xs k N) (hk : k < xs.size) (hkN : k < N) (hl : l ≤ k) (hlo : ∀ i, i < l → K xs i ≤ K xs k) (hhi : ∀ i, l ≤ i → i < k → K xs k < K xs i) : SS ρ (bubble xs k (k - l)) (k + 1) N := by
  have hR := s.hi k (Nat.le_refl _) hkN
  have bO : ∀ {i}, i < l → K (bubble xs k (k - l)) i = K xs i ∧ R ρ (bubble xs k (k - l)) i = R ρ xs i := fun h => bub_out hk hl (Nat.ne_of_lt h) fun c => Nat.lt_asymm h c.1
  refine ⟨fun i j hij hj => ?_, fun i hi => ?_, fun i h1 h2 => ?_⟩
  · have jk := Nat.le_of_lt_succ hj
    rcases Nat.lt_trichotomy i l with a | a | a
    · rcases Nat.lt_trichotomy j l with b | b | b
      · exact q2 (bO a) (bO b) (s.ord i j hij (Nat.lt_of_lt_of_le b hl))
      · exact q2 (bO a) (bub_at hk hl b) ((Int.lt_or_eq_of_le (hlo i a)).imp id fun e => ⟨e, by rw [hR]; exact s.lo i (Nat.lt_of_lt_of_le a hl)⟩)
      · exact q2 (bO a) (bub_in hk hl b jk) (s.ord i (j - 1) (Nat.lt_of_lt_of_le a (Nat.le_sub_one_of_lt b)) (pred_lt' b hj))
    · rw [a] at hij
      exact q2 (bub_at hk hl a) (bub_in hk hl hij jk) (.inl (hhi (j - 1) (Nat.le_sub_one_of_lt hij) (pred_lt' hij hj)))
    · exact q2 (bub_in hk hl a (Nat.le_trans (Nat.le_of_lt hij) jk)) (bub_in hk hl (Nat.lt_trans a hij) jk) (s.ord (i - 1) (j - 1) (Nat.sub_lt_sub_right (Nat.lt_of_le_of_lt (Nat.zero_le l) a) hij) (pred_lt' hij hj))
  · rcases Nat.lt_trichotomy i l with a | a | a
    · rw [(bO a).2]; exact Nat.lt_succ_of_lt (s.lo i (Nat.lt_of_lt_of_le a hl))
    · rw [(bub_at hk hl a).2, hR]; exact Nat.lt_succ_self k
    · rw [(bub_in hk hl a (Nat.le_of_lt_succ hi)).2]; exact Nat.lt_succ_of_lt (s.lo (i - 1) (pred_lt' a hi))
  · rw [(bub_out hk hl (Nat.ne_of_gt (Nat.lt_of_le_of_lt hl h1)) fun c => Nat.not_le.mpr h1 c.2).2]
    exact s.hi i (Nat.le_of_succ_le h1) h2
end
end Mine
end
-- S2
section
namespace Mine
section
variable {prog : Program} {w : World} {A : Around} {E : Value → Shared → Prop} {s : Shared} {a₀ : Array Keyed} {ρ : Value → Nat}
inductive PutJ (xs : Array Keyed) (k : Nat) : Nat → Option Bool × Nat × Nat → Prop
  | mk (x l r : Nat) (h1 : l ≤ r) (h2 : r ≤ k) (h3 : r + x ≤ k + l) (lo : ∀ i, i < l → K xs i ≤ K xs k) (hi : ∀ i, r ≤ i → i < k → K xs k < K xs i) : PutJ xs k x (none, l, r)
inductive PutE (xs : Array Keyed) (k : Nat) : Option Bool × Nat × Nat → Prop
  | mk (l : Nat) (h2 : l ≤ k) (lo : ∀ i, i < l → K xs i ≤ K xs k) (hi : ∀ i, l ≤ i → i < k → K xs k < K xs i) : PutE xs k (none, l, l)
theorem PutJ.fin {xs : Array Keyed} {k x : Nat} {c : Option Bool × Nat × Nat} (h : PutJ xs k x c) (hx : k ≤ x) : PutE xs k c := by
  cases h
  have e : l = r := Nat.le_antisymm h1 (Nat.le_of_add_le_add_right (Nat.le_trans (Nat.add_le_add_left hx r) (Nat.add_comm k l ▸ h3)))
  cases e
  exact .mk l h2 lo hi
theorem sort_put {st : SortSt} {n ok : Nat} {Q : Bool → SortSt → Prop} (h0 : IntKeys a₀) (hn : n ≤ a₀.size) (hok : ok ≤ n) (hok1 : 1 ≤ ok) (hB : SBase a₀ st) (hs : SS ρ (arrOf st) ok n)
    (h : ∀ st', SBase a₀ st' → SS ρ (arrOf st') n n → Q true st') : wpS (model prog w) A E s (binarySort' 0 n ok) Q st := by
  rw [binarySort'_eq]
  simp only [Nat.zero_add]
  refine wpS_bind (wpS_mono (wpS_forRange (I := fun k c st' => c = (none, ()) ∧ SBase a₀ st' ∧ SS ρ (arrOf st') (min k n) n)
    (Q := fun c st' => c = (none, ()) ∧ SBase a₀ st' ∧ SS ρ (arrOf st') n n) ?step ?fin ?init) ?post)
  case post =>
    rintro c st' ⟨rfl, hB', hs'⟩
    exact wpS_pure (h st' hB' hs')
  case init =>
    rw [Nat.max_eq_left hok1, Nat.min_eq_left hok]
    exact ⟨rfl, hB, hs⟩
  case fin =>
    rintro c st' ⟨hc, hB', hs'⟩
    refine ⟨hc, hB', ?_⟩
    rwa [Nat.min_eq_right (Nat.le_max_right _ _)] at hs'
  case step =>
    rintro k c st' hak hkn ⟨rfl, hB', hs'⟩
    rw [Nat.min_eq_left (Nat.le_of_lt hkn)] at hs'
    have hk : k < a₀.size := Nat.lt_of_lt_of_le hkn hn
    refine wpS_bind (wpS_mono (wpS_forRange (I := fun x c st'' => st'' = st' ∧ PutJ (arrOf st') k x c) (Q := fun c st'' => st'' = st' ∧ PutE (arrOf st') k c) ?istep ?ifin ?iinit) ?ipost)
    case iinit => exact ⟨rfl, .mk 0 0 k (Nat.zero_le _) (Nat.le_refl _) (Nat.le_refl _) (fun i hi => absurd hi (Nat.not_lt_zero i)) fun i h1 h2 => absurd h2 (Nat.not_lt.mpr h1)⟩
    case ifin =>
      intro c st'' hh
      exact ⟨hh.1, hh.2.fin (Nat.le_max_right 0 k)⟩
    case istep =>
      intro x c st'' _ hxk hh
      obtain ⟨e, hJ⟩ := hh
      cases e
      cases hJ
      dsimp only
      by_cases hge : l ≥ r
      · rw [if_pos hge]
        exact wpS_pure ⟨rfl, by cases Nat.le_antisymm h1 hge; exact .mk l h2 lo hi⟩
      · rw [if_neg hge]
        have hlt := Nat.lt_of_not_le hge
        have hm := mid2 hlt
        have hl := mid1 (Nat.le_of_lt hlt)
        refine wpS_bind (wpS_ltK hB' h0 hk (Nat.lt_trans (Nat.lt_of_lt_of_le hm h2) hk) ?_)
        by_cases hless : K (arrOf st') k < K (arrOf st') ((l + r) / 2)
        · simp only [hless, decide_true, if_true]
          exact wpS_pure ⟨rfl, .mk (x + 1) l ((l + r) / 2) hl (Nat.le_trans (Nat.le_of_lt hm) h2) (Nat.le_trans (Nat.le_of_eq (Nat.succ_add_eq_add_succ _ x).symm) (Nat.le_trans (Nat.add_le_add_right hm x) h3)) lo fun i h1 h2 => Int.lt_of_lt_of_le hless (hs'.le h1 h2)⟩
        · simp only [hless, decide_false, Bool.false_eq_true, if_false]
          exact wpS_pure ⟨rfl, .mk (x + 1) ((l + r) / 2 + 1) r hm h2 (Nat.le_trans (Nat.succ_le_succ h3) (Nat.add_le_add_left (Nat.succ_le_succ hl) k)) (fun i h1 => Int.le_trans (hs'.le (Nat.le_of_lt_succ h1) (Nat.lt_of_lt_of_le hm h2)) (Int.not_lt.mp hless)) hi⟩
    case ipost =>
      intro c st'' hh
      obtain ⟨e, hE⟩ := hh
      cases e
      cases hE
      show wpS _ _ _ _ (do moveDown' k l; pure (ForInStep.yield (none, ()))) _ _
      rw [moveDown'_eq]
      refine wpS_bind (wpS_modify (wpS_pure ⟨rfl, hB'.setArr (bubble_perm _ _ _), ?_⟩))
      rw [Nat.min_eq_left hkn]
      exact hs'.put (by rw [hB'.size]; exact hk) hkn h2 lo hi
theorem asc_loop {st : SortSt} {a nrem : Nat} {Q : AscSt → SortSt → Prop} (h0 : IntKeys a₀) (hn : nrem ≤ a₀.size) (ha : 1 ≤ a) (han : a ≤ nrem) (hB : SBase a₀ st) (hs : SS ρ (arrOf st) a nrem)
    (h : ∀ n, a ≤ n → n ≤ nrem → SS ρ (arrOf st) n nrem → (n = nrem ∨ K (arrOf st) n < K (arrOf st) (n - 1)) → Q (none, n) st) :
    wpS (model prog w) A E s (ascLoop a nrem) Q st := by
  unfold ascLoop
  refine wpS_forRange (I := fun x c st' => st' = st ∧ c = (none, x) ∧ SS ρ (arrOf st) x nrem) ?step ?fin ⟨rfl, rfl, hs⟩
  case fin =>
    rintro c st' ⟨rfl, rfl, hs'⟩
    rw [Nat.max_eq_right han] at hs' ⊢
    exact h nrem han (Nat.le_refl _) hs' (.inl rfl)
  case step =>
    rintro x c st' hax hxn ⟨rfl, rfl, hs'⟩
    dsimp only
    have xa := Nat.lt_of_lt_of_le hxn hn
    refine wpS_bind (wpS_ltK hB h0 xa (Nat.lt_of_le_of_lt (Nat.sub_le x 1) xa) ?_)
    by_cases hless : K (arrOf st') x < K (arrOf st') (x - 1)
    · simp only [hless, decide_true, if_true]
      exact wpS_pure (h x hax (Nat.le_of_lt hxn) hs' (.inr hless))
    · simp only [hless, decide_false, Bool.false_eq_true, if_false]
      exact wpS_pure ⟨rfl, rfl, hs'.next hxn (Nat.le_trans ha hax) hless⟩
theorem tail_three {st : SortSt} {n nrem : Nat} {Q : Option Nat → SortSt → Prop} (h0 : IntKeys a₀) (hn : nrem ≤ a₀.size) (h1 : 1 ≤ n) (hnn : n ≤ nrem) (hB : SBase a₀ st)
    (hs : DD ρ (arrOf st) n nrem) (h : ∀ m st', SBase a₀ st' → 1 ≤ m → m ≤ nrem → SS ρ (arrOf st') m nrem → Q (some m) st') :
    wpS (model prog w) A E s (tail3 n nrem) Q st := by
  unfold tail3
  have hsz : n ≤ (arrOf st).size := by rw [hB.size]; exact Nat.le_trans hnn hn
  refine wpS_bind (wpS_reverse ?_)
  have hB' : SBase a₀ (setArr st (mirror (arrOf st) 0 n ((n - 0) / 2))) := hB.setArr (mirror_perm _ _ _ _)
  exact wpS_bind (asc_loop h0 hn h1 hnn hB' (hs.back hsz) fun m hm1 hm2 hsm zz => wpS_pure (h m _ hB' (Nat.le_trans h1 hm1) hm2 hsm))
theorem DE.same {xs : Array Keyed} {x q N : Nat} (s : DE ρ xs x q N) (hxn : x < N) (hx1 : 1 ≤ x) (e : K xs x = K xs (x - 1)) : DE ρ xs (x + 1) (q + 1) N := by
  refine ⟨Nat.succ_le_succ s.hq, fun i j a b => s.i1 i j a (Nat.lt_of_succ_lt_succ b), fun i j a b c => ?_, fun i j a b c => ?_, fun i a => lo_next s.lo s.hi hxn a, fun i a b => s.hi i (Nat.le_of_succ_le a) b⟩
  · have a' := Nat.lt_of_succ_lt_succ a
    rcases Nat.lt_or_ge j x with hj | hj
    · exact s.i2 i j a' (Nat.le_of_succ_le_succ b) hj
    · rw [Nat.le_antisymm (Nat.le_of_lt_succ c) hj, e]
      exact s.i2 i (x - 1) a' (Nat.le_trans (Nat.le_of_eq (Nat.sub_add_cancel hx1).symm) (Nat.add_le_add_left (Nat.succ_le_succ (Nat.zero_le q)) _)) (Nat.sub_lt hx1 Nat.one_pos)
  · have a' := Nat.le_of_succ_le_succ a
    rcases Nat.lt_or_ge j x with hj | hj
    · exact s.i3 i j a' b hj
    · have hjx := Nat.le_antisymm (Nat.le_of_lt_succ c) hj
      rw [hjx] at b ⊢
      exact ⟨(s.eq a' b).trans e.symm, by rw [s.hi x (Nat.le_refl _) hxn]; exact s.lo i b⟩
theorem desc_loop {st : SortSt} {n nrem : Nat} {Q : DescSt → SortSt → Prop} (h0 : IntKeys a₀) (hn : nrem ≤ a₀.size) (hnn : n ≤ nrem) (hB : SBase a₀ st) (hs : DE ρ (arrOf st) n 0 nrem)
    (h : ∀ m neq st', SBase a₀ st' → m ≤ nrem → DE ρ (arrOf st') m neq nrem → Q (none, m, neq) st') :
    wpS (model prog w) A E s (descLoop n nrem) Q st := by
  unfold descLoop
  refine wpS_forRange (I := fun x c st' => ∃ neq, c = (none, x, neq) ∧ SBase a₀ st' ∧ DE ρ (arrOf st') x neq nrem) ?step ?fin ⟨0, rfl, hB, hs⟩
  case fin =>
    rintro c st' ⟨neq, rfl, hB', hs'⟩
    rw [Nat.max_eq_right hnn] at hs' ⊢
    exact h nrem neq st' hB' (Nat.le_refl _) hs'
  case step =>
    rintro x c st' hax hxn ⟨neq, rfl, hB', hs'⟩
    dsimp only
    have xa := Nat.lt_of_lt_of_le hxn hn
    have xb := Nat.lt_of_le_of_lt (Nat.sub_le x 1) xa
    have hsz : x ≤ (arrOf st').size := by rw [hB'.size]; exact Nat.le_of_lt xa
    have hx1 : 1 ≤ x := Nat.le_trans (Nat.succ_le_succ (Nat.zero_le neq)) hs'.hq
    have x1 : x - 1 < x := Nat.sub_lt hx1 Nat.one_pos
    refine wpS_bind (wpS_ltK hB' h0 xa xb ?_)
    by_cases hless : K (arrOf st') x < K (arrOf st') (x - 1)
    · simp only [hless, decide_true, if_true]
      by_cases hneq : neq > 0
      · rw [if_pos hneq]
        refine wpS_bind (wpS_reverse (wpS_pure ⟨0, rfl, hB'.setArr (mirror_perm _ _ _ _), (hs'.turn hsz).next hxn hx1 ?_⟩))
        have g1 : x - (neq + 1) ≤ x - 1 := Nat.sub_le_sub_left (Nat.succ_le_succ (Nat.zero_le neq)) x
        have e1 := (mir_out (ρ := ρ) hsz (a := x - (neq + 1)) (k := x) fun c => Nat.lt_irrefl _ c.2).1
        have e2 := (mir_in (ρ := ρ) hsz g1 x1).1.trans (hs'.eq (Nat.sub_le_iff_le_add.mp (mr_lo x1)) (mr_hi g1 x1))
        exact Int.lt_of_lt_of_le (Int.lt_of_le_of_lt (Int.le_of_eq e1) hless) (Int.le_of_eq e2.symm)
      · rw [if_neg hneq]
        have := Nat.eq_zero_of_not_pos hneq
        subst this
        exact wpS_pure ⟨0, rfl, hB', hs'.stay.next hxn hx1 hless⟩
    · simp only [hless, decide_false, Bool.false_eq_true, if_false]
      refine wpS_bind (wpS_ltK hB' h0 xb xa ?_)
      by_cases hlarger : K (arrOf st') (x - 1) < K (arrOf st') x
      · simp only [hlarger, decide_true, if_true]
        exact wpS_pure (h x neq st' hB' (Nat.le_of_lt hxn) hs')
      · simp only [hlarger, decide_false, Bool.false_eq_true, if_false]
        exact wpS_pure ⟨neq + 1, rfl, hB', hs'.same hxn hx1 (Int.le_antisymm (Int.not_lt.mp hlarger) (Int.not_lt.mp hless))⟩
theorem desc_part {st : SortSt} {n nrem : Nat} {Q : Option Nat → SortSt → Prop} (h0 : IntKeys a₀) (hn : nrem ≤ a₀.size) (hnn : n + 1 ≤ nrem) (hB : SBase a₀ st) (hs : DE ρ (arrOf st) (n + 1) 0 nrem)
    (h : ∀ m st', SBase a₀ st' → 1 ≤ m → m ≤ nrem → SS ρ (arrOf st') m nrem → Q (some m) st') :
    wpS (model prog w) A E s (descPart n nrem) Q st := by
  unfold descPart
  refine wpS_bind (wpS_lift (wpAny_rule ⟨rfl, ?_⟩))
  refine wpS_bind (desc_loop h0 hn hnn hB hs fun m neq st' hB' hm2 hs' => ?_)
  dsimp only
  have hsz : m ≤ (arrOf st').size := by rw [hB'.size]; exact Nat.le_trans hm2 hn
  have hq := Nat.le_trans (Nat.succ_le_succ (Nat.zero_le neq)) hs'.hq
  by_cases hneq : neq > 0
  · rw [if_pos hneq]
    exact wpS_bind (wpS_reverse (tail_three h0 hn hq hm2 (hB'.setArr (mirror_perm _ _ _ _)) (hs'.turn hsz) h))
  · rw [if_neg hneq]
    have := Nat.eq_zero_of_not_pos hneq
    subst this
    exact tail_three h0 hn hq hm2 hB' hs'.stay h
theorem count_run {st : SortSt} {nrem : Nat} {Q : Option Nat → SortSt → Prop} (h0 : IntKeys a₀) (hn : nrem ≤ a₀.size) (h1 : 1 ≤ nrem) (hB : SBase a₀ st) (hr : ∀ i, i < nrem → R ρ (arrOf st) i = i)
    (h : ∀ m st', SBase a₀ st' → 1 ≤ m → m ≤ nrem → SS ρ (arrOf st') m nrem → Q (some m) st') :
    wpS (model prog w) A E s (countRun' 0 nrem) Q st := by
  have v0 : ∀ {i j : Nat}, i < j → j < 1 → False := fun a b => Nat.not_lt_zero _ (Nat.lt_of_lt_of_le a (Nat.le_of_lt_succ b))
  rw [countRun0_eq]
  refine wpS_bind (asc_loop (ρ := ρ) h0 hn (Nat.le_refl 1) h1 hB ⟨fun i j a b => (v0 a b).elim, fun i a => by rw [hr i (Nat.lt_of_lt_of_le a h1)]; exact a, fun i a b => hr i b⟩ fun n hn1 hn2 hsn hor => ?_)
  dsimp only
  by_cases hnn : n = nrem
  · rw [if_pos (by simpa using hnn)]
    exact wpS_pure (h n st hB hn1 hn2 hsn)
  · rw [if_neg (by simpa using hnn)]
    have hlt : K (arrOf st) n < K (arrOf st) (n - 1) := hor.resolve_left hnn
    have hnl := Nat.lt_of_le_of_ne hn2 hnn
    have hsz : n ≤ (arrOf st).size := by rw [hB.size]; exact Nat.le_trans hn2 hn
    have n1 : n - 1 < n := Nat.sub_lt hn1 Nat.one_pos
    by_cases hgt : n > 1
    · rw [if_pos hgt]
      refine wpS_bind (wpS_ltK hB h0 (Nat.lt_of_lt_of_le h1 hn) (Nat.lt_of_lt_of_le (Nat.lt_trans n1 hnl) hn) ?_)
      by_cases hrose : K (arrOf st) 0 < K (arrOf st) (n - 1)
      · simp only [hrose, decide_true, if_true]
        exact wpS_pure (h n st hB hn1 hn2 hsn)
      · simp only [hrose, decide_false, Bool.false_eq_true, if_false]
        have hall : ∀ k, k < n → K (arrOf st) k = K (arrOf st) (n - 1) := by
          intro k hk
          exact Int.le_antisymm (hsn.le (Nat.le_sub_one_of_lt hk) n1) (Int.le_trans (Int.not_lt.mp hrose) (hsn.le (Nat.zero_le k) hk))
        refine wpS_bind (wpS_reverse (desc_part h0 hn hnl (hB.setArr (mirror_perm _ _ _ _)) ((hsn.turn hsz).next hnl hn1 ?_) h))
        have e1 := (mir_out (ρ := ρ) hsz (a := 0) (k := n) fun c => Nat.lt_irrefl _ c.2).1
        have e2 := (mir_in (ρ := ρ) hsz (Nat.zero_le _) n1).1.trans (hall _ (mr_hi (Nat.zero_le _) n1))
        exact Int.lt_of_lt_of_le (Int.lt_of_le_of_lt (Int.le_of_eq e1) hlt) (Int.le_of_eq e2.symm)
    · rw [if_neg hgt]
      have hn1' : n = 1 := Nat.le_antisymm (Nat.le_of_not_lt hgt) hn1
      subst hn1'
      exact desc_part h0 hn hnl hB (DD.next ⟨fun i j a b => (v0 a b).elim, fun i a => by rw [hr i (Nat.lt_of_lt_of_le a h1)]; exact a, fun i a b => hr i b⟩ hnl (Nat.le_refl 1) hlt) h
theorem sort_runs {st : SortSt} {Q : Unit → SortSt → Prop} (h0 : IntKeys a₀) (hB : SBase a₀ st) (hr : ∀ i, i < a₀.size → R ρ (arrOf st) i = i) (h2 : 2 ≤ a₀.size) (h64 : a₀.size < 64)
    (h : ∀ st', (arrOf st').Perm a₀ → failedOf st' = none → SS ρ (arrOf st') a₀.size a₀.size → Q () st') : wpS (model prog w) A E s sortRuns' Q st := by
  rw [sortRuns'_eq]
  refine wpS_bind (wpS_get ?_)
  dsimp only
  have hmr : minRun' a₀.size a₀.size 0 = a₀.size := by
    obtain ⟨f, hf⟩ : ∃ f, a₀.size = f + 1 := ⟨a₀.size - 1, (Nat.sub_add_cancel (Nat.le_of_succ_le h2)).symm⟩
    have : minRun' (f + 1) a₀.size 0 = a₀.size := by rw [minRun'_succ, if_pos h64]; rfl
    rwa [← hf] at this
  simp only [hB.size, hmr]
  have done : ∀ st' : SortSt, SBase a₀ st' → SS ρ (arrOf st') a₀.size a₀.size → (arrOf (setPending st' ((pendingOf st').push (0, a₀.size, 0)))).Perm a₀ ∧ failedOf (setPending st' ((pendingOf st').push (0, a₀.size, 0))) = none ∧
      pendingOf (setPending st' ((pendingOf st').push (0, a₀.size, 0))) = #[(0, a₀.size, 0)] ∧ SS ρ (arrOf (setPending st' ((pendingOf st').push (0, a₀.size, 0)))) a₀.size a₀.size :=
    fun st' b s' => ⟨b.perm, b.failed, by show (pendingOf st').push _ = _; rw [b.pend]; rfl, s'⟩
  refine wpS_bind (wpS_mono (wpS_forRange
    (I := fun x c st' => (x = 0 ∧ c = (none, 0) ∧ SBase a₀ st' ∧ ∀ i, i < a₀.size → R ρ (arrOf st') i = i) ∨ (1 ≤ x ∧ c = (none, a₀.size) ∧ (arrOf st').Perm a₀ ∧ failedOf st' = none ∧ pendingOf st' = #[(0, a₀.size, 0)] ∧ SS ρ (arrOf st') a₀.size a₀.size))
    (Q := fun c st' => c = (none, a₀.size) ∧ (arrOf st').Perm a₀ ∧ failedOf st' = none ∧ pendingOf st' = #[(0, a₀.size, 0)] ∧ SS ρ (arrOf st') a₀.size a₀.size) ?step ?fin (.inl ⟨rfl, rfl, hB, hr⟩)) ?post)
  case fin =>
    rintro c st' (⟨hx, _, _⟩ | ⟨_, hc, hD⟩)
    · lia
    · exact ⟨hc, hD⟩
  case step =>
    rintro x c st' _ hx (⟨rfl, rfl, hB', hr'⟩ | ⟨hx1, rfl, hD⟩)
    · dsimp only
      rw [if_neg (by lia)]
      simp only [Nat.sub_zero, Nat.min_self, Nat.zero_add]
      refine wpS_bind (count_run (ρ := ρ) h0 (Nat.le_refl _) (Nat.le_of_succ_le h2) hB' hr' fun m st2 hB2 hm1 hm2 hs2 => ?_)
      dsimp only
      by_cases hlt : m < a₀.size
      · rw [if_pos hlt]
        refine wpS_bind (wpS_lift (wpAny_rule ⟨rfl, ?_⟩))
        refine wpS_bind (sort_put (ρ := ρ) h0 (Nat.le_refl _) hm2 hm1 hB2 hs2 fun st3 hB3 hs3 => ?_)
        simp only [Bool.not_true, Bool.false_eq_true, if_false]
        refine wpS_bind (wpS_get ?_)
        have hb : (pendingOf st3).back? = none := by rw [hB3.pend]; rfl
        rw [hb]
        dsimp only
        exact wpS_bind (wpS_modify (wpS_pure (.inr ⟨Nat.le_refl 1, rfl, done st3 hB3 hs3⟩)))
      · rw [if_neg hlt]
        have hm : m = a₀.size := Nat.le_antisymm hm2 (Nat.le_of_not_lt hlt)
        subst hm
        refine wpS_bind (wpS_get ?_)
        have hb : (pendingOf st2).back? = none := by rw [hB2.pend]; rfl
        rw [hb]
        dsimp only
        exact wpS_bind (wpS_modify (wpS_pure (.inr ⟨Nat.le_refl 1, rfl, done st2 hB2 hs2⟩)))
    · dsimp only
      rw [if_pos (Nat.le_refl _)]
      exact wpS_pure ⟨rfl, hD⟩
  case post =>
    rintro c st' ⟨rfl, hD⟩
    dsimp only
    refine wpS_bind (wpS_mono (wpS_forRange (I := fun zz c st'' => st'' = st' ∧ c = (none, ())) (Q := fun c st'' => st'' = st' ∧ c = (none, ())) ?_ (fun zz zz hh => hh) ⟨rfl, rfl⟩) ?_)
    · rintro x c st'' _ _ ⟨rfl, rfl⟩
      refine wpS_bind (wpS_get ?_)
      rw [if_pos (by rw [hD.2.2.1]; exact Nat.le_refl 1)]
      exact wpS_pure ⟨rfl, rfl⟩
    · rintro c st'' ⟨rfl, rfl⟩
      exact wpS_pure (h _ hD.1 hD.2.1 hD.2.2.2)
end
end Mine
end
-- S3
section
set_option maxHeartbeats 4000000
namespace Mine
noncomputable def KOut (ρ : Value → Nat) (kz : List Int) (vs out : List Value) : Prop :=
  ∃ ps : List (Int × Value), ps.Perm (kz.zip vs) ∧ out = ps.map Prod.snd ∧ ps.Pairwise (fun p q => p.1 < q.1 ∨ (p.1 = q.1 ∧ ρ p.2 < ρ q.2))
theorem kout {ρ : Value → Nat} {keys : Array Value} {vs : List Value} {kz : List Int} (hk : IntsAre keys.toList kz) {xs : Array Keyed} (hp : xs.Perm (keys.zip vs.toArray)) (hs : SS ρ xs xs.size xs.size) : KOut ρ kz vs (xs.map (·.2)).toList := by
  have hl : xs.toList.Perm (keys.toList.zip vs) := by rw [← ksk_zip]; exact Array.perm_iff_toList_perm.mp hp
  refine ⟨xs.toList.map (fun p : Keyed => (numOf p.1, p.2)), ?_, ?_, ?_⟩
  · have e2 : (keys.toList.zip vs).map (fun p : Keyed => (numOf p.1, p.2)) = kz.zip vs := by
      rw [← hk.nums, List.zip_map_left]
      exact List.map_congr_left fun ⟨x, y⟩ _ => rfl
    rw [← e2]
    exact hl.map _
  · rw [Array.toList_map, List.map_map]
    rfl
  · rw [List.pairwise_map, List.pairwise_iff_getElem]
    intro i j hi hj hij
    have hi' : i < xs.size := by simpa using hi
    have hj' : j < xs.size := by simpa using hj
    have q := hs.ord i j hij hj'
    have r1 : R ρ xs i = ρ xs[i].2 := by unfold R; rw [Array.getElem?_eq_getElem hi']
    have r2 : R ρ xs j = ρ xs[j].2 := by unfold R; rw [Array.getElem?_eq_getElem hj']
    rw [K_eq hi', K_eq hj', r1, r2] at q
    simpa using q
section
variable {prog : Program} {w : World} {A : Around} {E : Value → Shared → Prop} {s : Shared} {h₀ : Heap} {L : Addr} {m : Str → Option Value} {news : List (Addr × Obj)} {a kS : Addr} {vs : List Value} {kz : List Int} {keys : Array Value} {e e1 : Nat} {P : PySem.Fin → Shared → Prop} {ρ : Value → Nat}
theorem ks_tail {st : SortSt} (F : Fr h₀ L s.heap m) (N : News h₀ L s.heap (news ++ [(kS, seqObj "list" keys e), (a, seqObj "list" #[] e1)])) (hka : kS ≠ a) (hnk : ∀ p ∈ news, p.1 ≠ kS) (hna : ∀ p ∈ news, p.1 ≠ a)
    (hk : IntsAre keys.toList kz) (hlen : kz.length = vs.length) (h64 : vs.length < 64) (hp : (arrOf st).Perm (keys.zip vs.toArray)) (hs : SS ρ (arrOf st) (arrOf st).size (arrOf st).size) (hfl : failedOf st = none)
    (h : ∀ h' tk out c, Fr h₀ L h' m → News h₀ L h' ((a, seqObj "list" out c) :: news) → KOut ρ kz vs out.toList → P (.done (.ret .none)) { s with heap := h', toks := tk }) :
    wpAny (model prog w) A (ksk_tail a false e1 (.ref kS) st) P E s := by
  have nk := N (kS, seqObj "list" keys e) (List.mem_append_right _ (.head _))
  have na := N (a, seqObj "list" #[] e1) (List.mem_append_right _ (.tail _ (.head _)))
  have Nn : News h₀ L s.heap news := fun p hp => N p (List.mem_append_left _ hp)
  have hsz : keys.size = vs.length := by
    have h1 := hk.length
    rw [Array.length_toList] at h1
    lia
  have hsz2 : (arrOf st).size = vs.length := by rw [hp.size_eq, Array.size_zip, hsz, List.size_toArray, Nat.min_self]
  have hout : ((arrOf st).map (·.2)).size = vs.length := by rw [Array.size_map]; exact hsz2
  have s1 := Heap.SameBut.update s.heap kS (Obj.mapSeq fun zz => (#[] : Array Value))
  have na1 : (s.heap.update kS (Obj.mapSeq fun zz => (#[] : Array Value))).get? a = some (seqObj "list" #[] e1) := (s1.2 a hka.symm).trans na.1
  have s2 := Heap.SameBut.update (s.heap.update kS (Obj.mapSeq fun zz => (#[] : Array Value))) a (Obj.mapSeq fun zz => (arrOf st).map (·.2))
  obtain ⟨c2, hc2⟩ : ∃ c2, ((s.heap.update kS (Obj.mapSeq fun zz => (#[] : Array Value))).update a (Obj.mapSeq fun zz => (arrOf st).map (·.2))).get? a = some (seqObj "list" ((arrOf st).map (·.2)) c2) :=
    ⟨_, get?_update_seq na1 fun zz => (arrOf st).map (·.2)⟩
  have N2 := ksk_news (ksk_news Nn s1 hnk) s2 hna
  unfold ksk_tail
  dsimp only
  refine wpAny_bind (listUpdate_at nk.1 rfl ?_ (by rw [hsz, sizeLine_eq]; lia) (Nat.zero_le _))
  refine wpAny_bind (wpAny_letGo ?_)
  refine wpAny_bind (seqEpoch_at na1 rfl ?_)
  simp only [Bool.false_eq_true, if_false]
  refine wpAny_bind (listUpdate_at na1 rfl ?_ (Nat.zero_le _) (Nat.le_trans (Nat.le_of_eq hout) (by rw [sizeLine_eq]; lia)))
  rw [hfl]
  simp only [bne_self_eq_false, Bool.false_eq_true, if_false]
  refine wpAny_pure (h _ _ _ c2 (ksk_fr (ksk_fr F s1 nk.2.1 nk.2.2) s2 na.2.1 na.2.2) (fun p hp => ?_) (kout hk hp hs))
  rcases List.mem_cons.mp hp with rfl | hp
  · exact ⟨hc2, na.2⟩
  · exact N2 p hp
theorem ks_end (F : Fr h₀ L s.heap m) (N : News h₀ L s.heap (news ++ [(kS, seqObj "list" keys e), (a, seqObj "list" #[] e1)])) (hka : kS ≠ a) (hnk : ∀ p ∈ news, p.1 ≠ kS) (hna : ∀ p ∈ news, p.1 ≠ a)
    (hk : IntsAre keys.toList kz) (hlen : kz.length = vs.length) (h2 : 2 ≤ vs.length) (h64 : vs.length < 64) (hρ : ∀ i v, vs[i]? = some v → ρ v = i)
    (h : ∀ h' tk out c, Fr h₀ L h' m → News h₀ L h' ((a, seqObj "list" out c) :: news) → KOut ρ kz vs out.toList → P (.done (.ret .none)) { s with heap := h', toks := tk }) :
    wpAny (model prog w) A (ksk_end a false vs.toArray e1 (.ref kS) keys) P E s := by
  have hsz : keys.size = vs.length := by
    have h1 := hk.length
    rw [Array.length_toList] at h1
    lia
  have hzs : (keys.zip vs.toArray).size = vs.length := by rw [Array.size_zip, hsz, List.size_toArray, Nat.min_self]
  have hR : ∀ i, i < (keys.zip vs.toArray).size → R ρ (keys.zip vs.toArray) i = i := by
    intro i hi
    rw [hzs] at hi
    unfold R
    have : (keys.zip vs.toArray)[i]? = some (keys[i]'(by lia), vs[i]) := by
      rw [Array.getElem?_eq_getElem (by rw [hzs]; exact hi)]
      simp
    rw [this]
    exact hρ i vs[i] (List.getElem?_eq_getElem hi)
  unfold ksk_end
  dsimp only
  simp only [Bool.false_eq_true, if_false]
  rw [if_neg (by rw [List.size_toArray]; lia), if_neg (by rw [List.size_toArray]; lia)]
  rw [ksk_kind hk (by rw [hsz]; lia)]
  refine wpAny_bind (wpAny_pure ?_)
  refine wpAny_bind (wpAny_mono (sort_runs (ρ := ρ) (a₀ := keys.zip vs.toArray) (st := SortSt.mk' oneType' (keys.zip vs.toArray) #[] 7 none)
    (Q := fun zz st' => (arrOf st').Perm (keys.zip vs.toArray) ∧ failedOf st' = none ∧ SS ρ (arrOf st') (keys.zip vs.toArray).size (keys.zip vs.toArray).size)
    (ksk_intKeys hk) ⟨Array.Perm.refl _, rfl, rfl, rfl⟩ hR (by rw [hzs]; lia) (by rw [hzs]; exact h64) fun st' a1 a2 a3 => ⟨a1, a2, a3⟩) ?_ fun zz zz e => e)
  intro zq0 s' zq2
  obtain ⟨⟨⟩, st'⟩ := zq0
  obtain ⟨rfl, hp, hf, hs⟩ := zq2
  dsimp only
  exact ks_tail F N hka hnk hna hk hlen h64 hp (by rw [hp.size_eq]; exact hs) hf h
theorem ks_rest {f : Value} (F : Fr h₀ L s.heap m) (N : News h₀ L s.heap (news ++ [(kS, seqObj "list" #[] 0), (a, seqObj "list" #[] e1)])) (hka : kS ≠ a) (hnk : ∀ p ∈ news, p.1 ≠ kS) (hna : ∀ p ∈ news, p.1 ≠ a)
    (hlen : kz.length = vs.length) (h2 : 2 ≤ vs.length) (h64 : vs.length < 64) (hρ : ∀ i v, vs[i]? = some v → ρ v = i)
    (turn : ∀ (i : Nat) (v : Value) (k : Int), vs[i]? = some v → kz[i]? = some k → ∀ (h : Heap) (tk : Nat) (own : List (Addr × Obj)), Fr h₀ L h m → News h₀ L h (news ++ own) →
      wpAny (model prog w) A (call f [v]) (KskEnd h₀ L m (news ++ own) k { s with heap := h, toks := tk }) (fun zz zz => False) { s with heap := h, toks := tk })
    (h : ∀ h' tk out c, Fr h₀ L h' m → News h₀ L h' ((a, seqObj "list" out c) :: news) → KOut ρ kz vs out.toList → P (.done (.ret .none)) { s with heap := h', toks := tk }) :
    wpAny (model prog w) A (ksk_rest a f false vs.toArray e1 (.ref kS)) P E s := by
  unfold ksk_rest
  refine wpAny_bind (wpAny_rule ?_)
  rw [List.forIn_toArray]
  refine wpAny_bind (ksk_fold (fun i s' => ∃ h' tk kA e, s' = { s with heap := h', toks := tk } ∧ Fr h₀ L h' m ∧ News h₀ L h' (news ++ [(kS, seqObj "list" kA e), (a, seqObj "list" #[] e1)]) ∧ IntsAre kA.toList (kz.take i)) vs 0 s
    ⟨s.heap, s.toks, #[], 0, rfl, F, N, by simpa using IntsAre.nil⟩ ?step ?done)
  case step =>
    rintro j x s' hx ⟨h', tk, kA, e, rfl, F', N', hk⟩
    simp only [Nat.zero_add] at hk ⊢
    have hj : j < vs.length := (List.getElem?_eq_some_iff.mp hx).1
    obtain ⟨k, hkj⟩ : ∃ k, kz[j]? = some k := ⟨_, List.getElem?_eq_getElem (by lia)⟩
    have hz : kA.size ≤ vs.length := by
      have h1 := hk.length
      rw [Array.length_toList, List.length_take] at h1
      lia
    refine wpAny_bind (wpAny_attempt (wpAny_mono (turn j x k hx hkj h' tk _ F' N') (fun v s'' he => ?_) fun zz zz hF => hF.elim))
    obtain ⟨g, tk2, t2, rfl, rfl, F2, N2⟩ := he
    dsimp only
    have nk := N2 (kS, seqObj "list" kA e) (List.mem_append_right _ (.head _))
    have na := N2 (a, seqObj "list" #[] e1) (List.mem_append_right _ (.tail _ (.head _)))
    have s1 := Heap.SameBut.update g kS (Obj.mapSeq (·.push (.int k t2)))
    obtain ⟨c2, hc2⟩ : ∃ c2, (g.update kS (Obj.mapSeq (·.push (.int k t2)))).get? kS = some (seqObj "list" (kA.push (.int k t2)) c2) := ⟨_, get?_update_seq nk.1 (·.push (.int k t2))⟩
    have ek : kz.take (j + 1) = kz.take j ++ [k] := by rw [List.take_add_one, hkj]; simp
    have ea : (kA.push (Value.int k t2)).toList = kA.toList ++ [Value.int k t2] := by simp
    refine wpAny_bind (listUpdate_at nk.1 rfl ?_ (by rw [sizeLine_eq]; lia) (Nat.le_trans (Nat.le_of_eq (Array.size_push ..)) (by rw [sizeLine_eq]; lia)))
    refine wpAny_pure ⟨rfl, _, _, kA.push (.int k t2), c2, rfl, ksk_fr F2 s1 nk.2.1 nk.2.2, fun p hp => ?_, by rw [ea, ek]; exact ksk_snoc hk⟩
    rcases List.mem_append.mp hp with hp | hp
    · exact ksk_news (fun q hq => N2 q (List.mem_append_left _ hq)) s1 hnk p hp
    · rcases List.mem_cons.mp hp with rfl | hp
      · exact ⟨hc2, nk.2⟩
      · rw [List.mem_singleton.mp hp]
        exact ⟨(s1.2 a hka.symm).trans na.1, na.2⟩
  case done =>
    rintro s' ⟨h', tk, kA, e, rfl, F', N', hk⟩
    have hk' : IntsAre kA.toList kz := by
      have e3 : kz.take (0 + vs.length) = kz := List.take_of_length_le (by lia)
      rw [e3] at hk
      exact hk
    have nk := N' (kS, seqObj "list" kA e) (List.mem_append_right _ (.head _))
    try dsimp only
    refine wpAny_bind (listItems_at nk.1 rfl ?_)
    exact ks_end F' N' hka hnk hna hk' hlen h2 h64 hρ fun h3 tk3 out c F3 N3 k3 => h h3 tk3 out c F3 N3 k3
theorem ks_sort {f : Value} {n : Nat} (F : Fr h₀ L s.heap m) (N : News h₀ L s.heap news) (ho : s.heap.get? a = some (seqObj "list" vs.toArray n)) (haL : a ≠ L) (ha0 : h₀.get? a = none) (hna : ∀ p ∈ news, p.1 ≠ a)
    (hlen : kz.length = vs.length) (h2 : 2 ≤ vs.length) (h64 : vs.length < 64) (hρ : ∀ i v, vs[i]? = some v → ρ v = i)
    (turn : ∀ (i : Nat) (v : Value) (k : Int), vs[i]? = some v → kz[i]? = some k → ∀ (h : Heap) (tk : Nat) (own : List (Addr × Obj)), Fr h₀ L h m → News h₀ L h (news ++ own) →
      wpAny (model prog w) A (call f [v]) (KskEnd h₀ L m (news ++ own) k { s with heap := h, toks := tk }) (fun zz zz => False) { s with heap := h, toks := tk })
    (h : ∀ h' tk out c, Fr h₀ L h' m → News h₀ L h' ((a, seqObj "list" out c) :: news) → KOut ρ kz vs out.toList → P (.done (.ret .none)) { s with heap := h', toks := tk }) :
    wpAny (model prog w) A (ksk_tree a f false) P E s := by
  have ha : a < s.heap.objs.size := Heap.lt_size ho
  have s1 := Heap.SameBut.update s.heap a (Obj.mapSeq fun zz => (#[] : Array Value))
  obtain ⟨e1, ho1⟩ : ∃ e1, (s.heap.update a (Obj.mapSeq fun zz => (#[] : Array Value))).get? a = some (seqObj "list" #[] e1) := ⟨_, get?_update_seq ho fun zz => #[]⟩
  have F1 := ksk_fr F s1 haL ha0
  have N1 := ksk_news N s1 hna
  have hkS : ((s.heap.update a (Obj.mapSeq fun zz => (#[] : Array Value))).push (seqObj "tuple" vs.toArray 0)).objs.size = s.heap.objs.size + 1 := by rw [Heap.size_push, Heap.size_update]
  have hLk : L < ((s.heap.update a (Obj.mapSeq fun zz => (#[] : Array Value))).push (seqObj "tuple" vs.toArray 0)).objs.size := (F1.push _).ns.lt
  unfold ksk_tree
  refine wpAny_bind (listItems_at ho rfl ?_)
  refine wpAny_bind (listUpdate_at ho rfl ?_ (by rw [List.size_toArray, sizeLine_eq]; lia) (Nat.zero_le _))
  refine wpAny_bind (seqEpoch_at ho1 rfl ?_)
  refine wpAny_bind (wpAny_newTuple ?_ (by show vs.length ≤ _; rw [sizeLine_eq]; lia))
  refine wpAny_bind (wpAny_newList ?_ (Nat.zero_le _))
  refine wpAny_holding ?_
  refine ks_rest (ρ := ρ) (s := { s with heap := ((s.heap.update a (Obj.mapSeq fun zz => (#[] : Array Value))).push (seqObj "tuple" vs.toArray 0)).push (seqObj "list" #[] 0) }) (kS := ((s.heap.update a (Obj.mapSeq fun zz => (#[] : Array Value))).push (seqObj "tuple" vs.toArray 0)).objs.size)
    ((F1.push _).push _) (fun p hp => ?_) (by rw [hkS]; exact Nat.ne_of_gt (Nat.lt_succ_of_lt ha)) (fun p hp => by rw [hkS]; exact Nat.ne_of_lt (Nat.lt_succ_of_lt (Heap.lt_size (N p hp).1))) hna hlen h2 h64 hρ turn h
  rcases List.mem_append.mp hp with hp | hp
  · exact ⟨Heap.get?_push_of_some _ (Heap.get?_push_of_some _ (N1 p hp).1), (N1 p hp).2⟩
  · rcases List.mem_cons.mp hp with rfl | hp
    · exact ⟨Heap.get?_push_size _ rfl, Nat.ne_of_gt hLk, Heap.get?_none_of_le (Nat.le_trans F.above (Nat.le_of_lt hLk))⟩
    · rw [List.mem_singleton.mp hp]
      exact ⟨Heap.get?_push_of_some _ (Heap.get?_push_of_some _ ho1), haL, ha0⟩
end
section
variable {prog : Program} {w : World} {A : Around} {E : Value → Shared → Prop} {h₀ : Heap} {L l : Addr} {m : Str → Option Value} {news : List (Addr × Obj)} {vs : List Value} {Q : Value → Shared → Prop} {ρ : Value → Nat} {h : Heap} {gs : Array GenState} {d : Drawn} {t : Nat} {os : OsState}
theorem call_sorted {kz : List Int} {f c : Addr} (F : Fr h₀ L h m) (N : News h₀ L h news) (hl : h.get? l = some (listOf vs.toArray c)) (hlen : kz.length = vs.length) (h2 : 2 ≤ vs.length) (h64 : vs.length < 64) (hρ : ∀ i v, vs[i]? = some v → ρ v = i)
    (turn : ∀ (i : Nat) (v : Value) (k : Int), vs[i]? = some v → kz[i]? = some k → ∀ (h : Heap) (tk : Nat) (own : List (Addr × Obj)), Fr h₀ L h m → News h₀ L h (news ++ own) →
      wpAny (model prog w) A.in1.in1 (call (.ref f) [v]) (KskEnd h₀ L m (news ++ own) k ⟨h, gs, d, tk, os⟩) (fun zz zz => False) ⟨h, gs, d, tk, os⟩)
    (q : ∀ D h' tk out c, Fr h₀ L h' m → News h₀ L h' ((D, listOf (List.toArray out) c) :: news) → (∀ q ∈ news, q.1 < D) → KOut ρ kz vs out → Q (.ref D) ⟨h', gs, d, tk, os⟩) :
    wpAny (model prog w) A (call (.builtin "sorted") [.ref l] [("key", .ref f)]) Q E ⟨h, gs, d, t, os⟩ := by
  have hl' : (⟨h, gs, d, t, os⟩ : Shared).heap.IsList l vs.toArray := ⟨_, hl, rfl, _, rfl⟩
  refine call_function_entry_kw kind_sorted plain_sorted entry_sorted (ksk_s1 _ _) ?_
  unfold Builtin.«sorted»
  refine wpAny_bind (m := checkCount "sorted" 1 1 _) (wpAny_pure ?_)
  refine wpAny_bind (collect_list hl' ?_ (by rw [sizeLine_eq]; lia))
  refine wpAny_bind (wpAny_newList ?_ (by rw [sizeLine_eq]; lia))
  have hsz : ((h.push (seqObj "list" #[] 0)).update h.objs.size (Obj.mapSeq (· ++ vs.toArray))).objs.size = h.objs.size + 1 := by rw [Heap.size_update, Heap.size_push]
  have hoL : (((h.push (seqObj "list" #[] 0)).update h.objs.size (Obj.mapSeq (· ++ vs.toArray))).push (seqObj "list" vs.toArray 0)).get? (h.objs.size + 1) = some (seqObj "list" vs.toArray 0) := by
    rw [← hsz]; exact Heap.get?_push_size _ rfl
  have keep : ∀ b o, h.get? b = some o → (((h.push (seqObj "list" #[] 0)).update h.objs.size (Obj.mapSeq (· ++ vs.toArray))).push (seqObj "list" vs.toArray 0)).get? b = some o := fun b o q => by
    have hlt : b < h.objs.size := Heap.lt_size q
    rw [Heap.get?_push_ne _ _ _ (by rw [hsz]; exact Nat.ne_of_lt (Nat.lt_succ_of_lt hlt)), Heap.get?_update_ne _ _ _ _ (Nat.ne_of_lt hlt), Heap.get?_push_ne _ _ _ (Nat.ne_of_lt hlt)]
    exact q
  have hL : L < h.objs.size := F.ns.lt
  show wpAny _ _ _ _ _ { (⟨h, gs, d, t, os⟩ : Shared) with heap := ((h.push (seqObj "list" #[] 0)).update h.objs.size (Obj.mapSeq (· ++ vs.toArray))).push (seqObj "list" vs.toArray 0) }
  rw [hsz]
  refine wpAny_bind (wpAny_holding (wpAny_call_entry_kw slot_list_sort ⟨_, hoL, rfl⟩ entry_list_sort ?body (ksk_l1 _ _)))
  case body =>
    show wpAny (model prog w) A.in1.in1 (Builtin.«list.sort» ⟨[.ref (h.objs.size + 1)], [("key", .ref f)]⟩) _ _ _
    rw [show Builtin.«list.sort» ⟨[.ref (h.objs.size + 1)], [("key", .ref f)]⟩ = ksk_tree (h.objs.size + 1) (.ref f) false from ksk_t1 f _]
    refine ks_sort (ρ := ρ) (s := { (⟨h, gs, d, t, os⟩ : Shared) with heap := ((h.push (seqObj "list" #[] 0)).update h.objs.size (Obj.mapSeq (· ++ vs.toArray))).push (seqObj "list" vs.toArray 0) })
      (F.kept keep) (N.grown keep) hoL (Nat.ne_of_gt (Nat.lt_succ_of_lt hL)) (Heap.get?_none_of_le (Nat.le_trans F.above (Nat.le_succ_of_le (Nat.le_of_lt hL))))
      (fun p hp => Nat.ne_of_lt (Nat.lt_succ_of_lt (Heap.lt_size (N p hp).1))) hlen h2 h64 hρ turn fun h' tk out c F' N' k' => ⟨_, rfl, ?_⟩
    refine wpAny_pure ⟨_, rfl, q _ h' tk out.toList c F' ?_ (fun q hq => Nat.lt_succ_of_lt (Heap.lt_size (N q hq).1)) k'⟩
    simpa using N'
end
end Mine
end
-- P7
section
namespace Mine
noncomputable def tagsTo (s0 s1 : Nat) : Nat → List Tag
  | 0 => []
  | i + 1 => tagsTo s0 s1 i ++ seg i 0 (if i = 0 then s0 else s1)
noncomputable def Itm (O : Addr → Obj → Prop) (k : Int) (p : Str × Str) (T : Addr) : Prop := ∃ a u t1 t2, O T (tupO [.int k u, .ref a]) ∧ O a (tupO [.str p.1 t1, .str p.2 t2])
structure Its (O : Addr → Obj → Prop) (kf : Tag → Int) (pf : Tag → Str × Str) (Ts : List Addr) (tags : List Tag) : Prop where
  len : Ts.length = tags.length
  at_ : ∀ (i : Nat) (T : Addr) (x : Tag), Ts[i]? = some T → tags[i]? = some x → Itm O (kf x) (pf x) T
  nd : Ts.Nodup
theorem Its.nil {O : Addr → Obj → Prop} {kf : Tag → Int} {pf : Tag → Str × Str} : Its O kf pf [] [] := ⟨rfl, fun i T x h => by simp at h, .nil⟩
theorem Itm.mono {O O' : Addr → Obj → Prop} {k : Int} {p : Str × Str} {T : Addr} (x : Itm O k p T) (hk : ∀ a o, O a o → O' a o) : Itm O' k p T :=
  let ⟨a, u, t1, t2, h1, h2⟩ := x; ⟨a, u, t1, t2, hk _ _ h1, hk _ _ h2⟩
theorem Its.mono {O O' : Addr → Obj → Prop} {kf : Tag → Int} {pf : Tag → Str × Str} {Ts : List Addr} {tags : List Tag} (x : Its O kf pf Ts tags) (hk : ∀ a o, O a o → O' a o) : Its O' kf pf Ts tags :=
  ⟨x.len, fun i T y h1 h2 => (x.at_ i T y h1 h2).mono hk, x.nd⟩
theorem Its.snoc {O : Addr → Obj → Prop} {kf : Tag → Int} {pf : Tag → Str × Str} {Ts : List Addr} {tags : List Tag} (x : Its O kf pf Ts tags) {T : Addr} {y : Tag} (h : Itm O (kf y) (pf y) T) (hn : T ∉ Ts) : Its O kf pf (Ts ++ [T]) (tags ++ [y]) := by
  refine ⟨by simp [x.len], fun i T' y' h1 h2 => ?_, ?_⟩
  · rcases Nat.lt_or_ge i Ts.length with hi | hi
    · rw [List.getElem?_append_left hi] at h1
      rw [List.getElem?_append_left (by rw [← x.len]; exact hi)] at h2
      exact x.at_ i T' y' h1 h2
    · rw [List.getElem?_append_right hi] at h1
      rw [List.getElem?_append_right (by rw [← x.len]; exact hi)] at h2
      have e1 : i - Ts.length = 0 := by
        rcases Nat.eq_zero_or_pos (i - Ts.length) with z | z
        · exact z
        · rw [List.getElem?_eq_none (show [T].length ≤ i - Ts.length from z)] at h1; cases h1
      rw [e1] at h1
      rw [← x.len, e1] at h2
      cases h1; cases h2
      exact h
  · rw [List.nodup_append]
    exact ⟨x.nd, by simp, fun a ha b hb e => hn (by rw [List.mem_singleton.mp hb] at e; exact e ▸ ha)⟩
theorem seg_succ (r j : Nat) : seg r 0 (j + 1) = seg r 0 j ++ [(r, j)] := by
  simp [seg, List.range'_concat]
noncomputable def ix (m : Nat) (x : Tag) : Nat := if x.1 = 0 then x.2 else m + x.2
theorem tags2 (m n : Nat) : tagsTo m n 2 = seg 0 0 m ++ seg 1 0 n := by simp [tagsTo]
theorem tags2_len (m n : Nat) : (tagsTo m n 2).length = m + n := by simp [tags2, seg]
theorem tags2_at {m n i : Nat} {x : Tag} (h : (tagsTo m n 2)[i]? = some x) : ix m x = i ∧ i < m + n := by
  have hl : i < m + n := by
    rcases Nat.lt_or_ge i (m + n) with z | z
    · exact z
    · rw [List.getElem?_eq_none (by rw [tags2_len]; exact z)] at h; cases h
  rw [tags2] at h
  refine ⟨?_, hl⟩
  have l0 : (seg 0 0 m).length = m := by simp [seg]
  rcases Nat.lt_or_ge i m with hi | hi
  · rw [List.getElem?_append_left (by rw [l0]; exact hi)] at h
    unfold seg at h
    rw [List.getElem?_map, List.getElem?_range' (show i < m - 0 from hi)] at h
    cases h
    simp [ix]
  · rw [List.getElem?_append_right (by rw [l0]; exact hi), l0] at h
    unfold seg at h
    rw [List.getElem?_map, List.getElem?_range' (show i - m < n - 0 from Nat.sub_lt_left_of_lt_add hi hl)] at h
    cases h
    simp [ix, Nat.add_sub_of_le hi]
theorem tags2_mem {m n : Nat} {x : Tag} : x ∈ tagsTo m n 2 ↔ (x.1 = 0 ∧ x.2 < m) ∨ (x.1 = 1 ∧ x.2 < n) := by
  rw [tags2, List.mem_append, mem_seg, mem_seg]; exact ⟨fun h => h.imp (fun h => ⟨h.1, h.2.2⟩) fun h => ⟨h.1, h.2.2⟩, fun h => h.imp (fun h => ⟨h.1, Nat.zero_le _, h.2⟩) fun h => ⟨h.1, Nat.zero_le _, h.2⟩⟩
theorem seg_nodup (r a b : Nat) : (seg r a b).Nodup := map_nodup (List.nodup_range') fun a b h => (Prod.mk.inj h).2
theorem tags2_nodup (m n : Nat) : (tagsTo m n 2).Nodup := by
  rw [tags2, List.nodup_append]
  refine ⟨seg_nodup _ _ _, seg_nodup _ _ _, fun a ha b hb e => ?_⟩
  have h1 := mem_seg.mp ha
  have h2 := mem_seg.mp hb
  rw [e] at h1
  exact absurd (h1.1.symm.trans h2.1) (by decide)
noncomputable def rho (Ts : List Addr) : Value → Nat
  | .ref a => Ts.idxOf a
  | _ => 0
theorem rho_at {Ts : List Addr} (nd : Ts.Nodup) {i : Nat} {v : Value} (h : (Ts.map Value.ref)[i]? = some v) : rho Ts v = i := by
  rw [List.getElem?_map] at h
  obtain ⟨hi, -⟩ : i < Ts.length ∧ True := by
    rcases Nat.lt_or_ge i Ts.length with z | z
    · exact ⟨z, trivial⟩
    · rw [List.getElem?_eq_none z] at h; cases h
  rw [List.getElem?_eq_getElem hi] at h
  cases h
  exact nd.idxOf_getElem i hi
theorem bef_nodup {k0 k1 : Nat → Int} {D : List Tag} (h : D.Pairwise (bef k0 k1)) : D.Nodup := h.imp fun {a b} hb e => by
  subst e; exact bef_irr k0 k1 a hb
theorem ix0 {m : Nat} {x : Tag} (h : x.1 = 0) : ix m x = x.2 := if_pos h
theorem ix1 {m : Nat} {x : Tag} (h : x.1 = 1) : ix m x = m + x.2 := if_neg (by rw [h]; decide)
theorem ix_lt {m n : Nat} {x : Tag} (h : (x.1 = 0 ∧ x.2 < m) ∨ (x.1 = 1 ∧ x.2 < n)) : ix m x < m + n :=
  h.elim (fun h => by rw [ix0 h.1]; exact Nat.lt_of_lt_of_le h.2 (Nat.le_add_right m n)) fun h => by rw [ix1 h.1]; exact Nat.add_lt_add_left h.2 m
theorem ix_mono {m n : Nat} {a b : Tag} (h1 : (a.1 = 0 ∧ a.2 < m) ∨ (a.1 = 1 ∧ a.2 < n)) (h2 : (b.1 = 0 ∧ b.2 < m) ∨ (b.1 = 1 ∧ b.2 < n)) (h3 : a.1 < b.1 ∨ (a.1 = b.1 ∧ a.2 < b.2)) : ix m a < ix m b := by
  rcases h1 with ⟨e1, l1⟩ | ⟨e1, l1⟩ <;> rcases h2 with ⟨e2, l2⟩ | ⟨e2, l2⟩
  · rw [ix0 e1, ix0 e2]; exact (h3.resolve_left (by rw [e1, e2]; exact Nat.lt_irrefl 0)).2
  · rw [ix0 e1, ix1 e2]; exact Nat.lt_of_lt_of_le l1 (Nat.le_add_right _ _)
  · exact h3.elim (fun h => absurd h (by rw [e1, e2]; decide)) fun h => absurd h.1 (by rw [e1, e2]; decide)
  · rw [ix1 e1, ix1 e2]; exact Nat.add_lt_add_left (h3.resolve_left (by rw [e1, e2]; exact Nat.lt_irrefl 1)).2 m
theorem sorted_tags {k0 k1 : Nat → Int} {m n : Nat} {Ts : List Addr} (hl : Ts.length = m + n) (nd : Ts.Nodup) {out : List Value} (K : KOut (rho Ts) ((tagsTo m n 2).map (keyT k0 k1)) (Ts.map .ref) out) {D : List Tag} (hD : D.Pairwise (bef k0 k1))
    (hm : ∀ x, x ∈ D ↔ (x.1 = 0 ∧ x.2 < m) ∨ (x.1 = 1 ∧ x.2 < n)) : out = D.map fun x => Value.ref (Ts.getD (ix m x) 0) := by
  obtain ⟨ps, hp, rfl, ho⟩ := K
  have eT : Ts.map Value.ref = (tagsTo m n 2).map fun x => Value.ref (Ts.getD (ix m x) 0) := by
    refine List.ext_getElem? fun i => ?_
    rw [List.getElem?_map, List.getElem?_map]
    rcases Nat.lt_or_ge i (m + n) with hi | hi
    · have h2 : (tagsTo m n 2)[i]? = some ((tagsTo m n 2)[i]'(by rw [tags2_len]; exact hi)) := List.getElem?_eq_getElem _
      have h3 := (tags2_at h2).1
      rw [h2, List.getElem?_eq_getElem (by rw [hl]; exact hi)]
      simp only [Option.map_some]
      rw [h3, List.getD_eq_getElem?_getD, List.getElem?_eq_getElem (by rw [hl]; exact hi)]
      rfl
    · rw [List.getElem?_eq_none (by rw [hl]; exact hi), List.getElem?_eq_none (by rw [tags2_len]; exact hi)]
      rfl
  rw [eT, List.zip_map'] at hp
  have hpd : D.Perm (tagsTo m n 2) := (List.perm_ext_iff_of_nodup (bef_nodup hD) (tags2_nodup m n)).mpr fun x => by rw [hm, tags2_mem]
  have hp2 := hp.trans (hpd.map fun x => (keyT k0 k1 x, Value.ref (Ts.getD (ix m x) 0))).symm
  have hix : ∀ x ∈ D, rho Ts (Value.ref (Ts.getD (ix m x) 0)) = ix m x := by
    intro x hx
    have h1 := (hm x).mp hx
    have h2 : ix m x < Ts.length := by rw [hl]; exact ix_lt h1
    refine rho_at nd ?_
    rw [List.getElem?_map, List.getD_eq_getElem?_getD, List.getElem?_eq_getElem h2]
    rfl
  have ho2 : (D.map fun x => (keyT k0 k1 x, Value.ref (Ts.getD (ix m x) 0))).Pairwise (fun p q => p.1 < q.1 ∨ (p.1 = q.1 ∧ rho Ts p.2 < rho Ts q.2)) := by
    rw [List.pairwise_map]
    refine List.Pairwise.imp_of_mem (fun {a b} ha hb h => ?_) hD
    dsimp only
    rw [hix a ha, hix b hb]
    have h1 := (hm a).mp ha
    have h2 := (hm b).mp hb
    exact h.imp id fun h => ⟨h.1, ix_mono h1 h2 h.2⟩
  have e := hp2.eq_of_pairwise (fun a b zz zz h1 h2 => h1.elim (fun x => h2.elim (fun y => absurd x (Int.lt_asymm y)) fun y => absurd x (by rw [y.1]; exact Int.lt_irrefl _)) fun x => h2.elim (fun y => absurd y (by rw [x.1]; exact Int.lt_irrefl _)) fun y => absurd x.2 (Nat.lt_asymm y.2)) ho ho2
  rw [e, List.map_map]
  rfl
theorem Its.get {O : Addr → Obj → Prop} {kf : Tag → Int} {pf : Tag → Str × Str} {Ts : List Addr} {m n : Nat} (I : Its O kf pf Ts (tagsTo m n 2)) {x : Tag} (h : (x.1 = 0 ∧ x.2 < m) ∨ (x.1 = 1 ∧ x.2 < n)) : Itm O (kf x) (pf x) (Ts.getD (ix m x) 0) := by
  obtain ⟨i, hi, he⟩ := List.getElem_of_mem (tags2_mem.mpr h)
  have h2 : (tagsTo m n 2)[i]? = some x := by rw [List.getElem?_eq_getElem hi, he]
  have h3 := (tags2_at h2).1
  have h4 : i < Ts.length := by rw [I.len]; exact hi
  refine I.at_ i _ x ?_ h2
  rw [h3, List.getD_eq_getElem?_getD, List.getElem?_eq_getElem h4]
  rfl
end Mine
end
-- L13
section
namespace Mine
noncomputable abbrev kfI (K0 K1 : List Int) : Tag → Int := keyT (fun i => K0.getD i 0) (fun i => K1.getD i 0)
theorem row_at {r0 r1 : Addr} {tl : List (Addr × Obj)} {vk0 vk1 : List Value} {ck0 ck1 : Nat} {K0 K1 : List Int} (h0 : (r0, listOf vk0.toArray ck0) ∈ tl) (h1 : (r1, listOf vk1.toArray ck1) ∈ tl) (i0 : IntsAre vk0 K0) (i1 : IntsAre vk1 K1) {i : Nat} (hi : i < 2) :
    ∃ r vs c ks, [Value.ref r0, .ref r1].toArray[((i : Int)).toNat]? = some (.ref r) ∧ (r, listOf (List.toArray vs) c) ∈ tl ∧ IntsAre vs ks ∧ ks.length = szOf K0.length K1.length i ∧ ∀ j, ks.getD j 0 = kfI K0 K1 (i, j) := by
  have : i = 0 ∨ i = 1 := by lia
  rcases this with rfl | rfl
  · exact ⟨r0, vk0, ck0, K0, rfl, h0, i0, rfl, fun zz => rfl⟩
  · exact ⟨r1, vk1, ck1, K1, rfl, h1, i1, rfl, fun zz => rfl⟩
theorem tags_len9 {s0 s1 i : Nat} (hi : i < 2) (a : s0 ≤ 9) : (tagsTo s0 s1 i).length ≤ 9 := by
  match i, hi with
  | 0, _ => simp [tagsTo]
  | 1, _ => simp [tagsTo, seg_len]; exact a
theorem pc_at {s0 s1 i j : Nat} (hi : i < 2) : (piecesOf i (szOf s0 s1 i)).getD j ("", "") = pcT s0 s1 (i, j) := by
  have : i = 0 ∨ i = 1 := by lia
  rcases this with rfl | rfl <;> rfl
section
variable {w : World} {A : Around} {E : Value → Shared → Prop} {K : Frag} {mg mb : Str → Option Value} {h g : Heap} {gs : Array GenState} {d : Drawn} {t : Nat} {os : OsState} {L : Addr} {m : Str → Option Value}
inductive ItJ (gs : Array GenState) (s0 s1 : Nat) (K0 K1 : List Int) (l it : Addr) (pv : List Value) (pc : Nat) (o : Obj) (i : Nat) (ui : Tok) (lp : List (Addr × Obj)) (j : Nat) (m : Str → Option Value) (ys : List Value) : List (Addr × Obj) → Array GenState → Prop
  | mk (hrow : m "row" = some (.int (i : Nat) ui)) (Ts : List Addr) (nwj : List (Addr × Obj)) (hy : ys = Ts.map Value.ref) (hS : Its (fun a o => (a, o) ∈ nwj) (kfI K0 K1) (pcT s0 s1) Ts (tagsTo s0 s1 i ++ seg i 0 j)) (hnit : ∀ p ∈ nwj, p.1 ≠ it) (hlpn : ∀ p ∈ lp, p ∈ nwj) :
    ItJ gs s0 s1 K0 K1 l it pv pc o i ui lp j m ys ((l, listOf pv.toArray pc) :: (it, o) :: nwj) gs
set_option maxHeartbeats 2000000 in
theorem law20 (LN : LawN K) (LF : LawF K) (G : Gd K mg mb g) (am : Amb A 29) {s0 s1 base head : Nat} {K0 K1 : List Int} {lg kl r0 r1 ml tell : Addr} {tl W : List (Addr × Obj)} (lt : LawT L s0 s1 base head K0 K1 lg kl r0 r1 ml tell tl) (hW : ∀ p ∈ tl, p ∈ W)
    (F : Fr g L h m) (N : News g L h W) {Q : Flow → Shared → Prop}
    (q : ∀ il Ts ci nw h' t' m', Its (fun a o => (a, o) ∈ nw) (kfI K0 K1) (pcT s0 s1) Ts (tagsTo s0 s1 2) → Fr g L h' m' → (∀ x : Str, x ≠ "items" → m' x = m x) → m' "items" = some (.ref il) → News g L h' ((il, listOf (Ts.map Value.ref).toArray ci) :: (nw ++ W)) → (∀ p ∈ nw ++ W, p.1 ≠ il) → (∀ p ∈ nw, ∀ p' ∈ W, p.1 ≠ p'.1) →
      wpAny (model PW w) A (execs (b_law.drop 21) (lEnv L)) Q E ⟨h', gs, d, t', os⟩) :
    wpAny (model PW w) A (execs (b_law.drop 20) (lEnv L)) Q E ⟨h, gs, d, t, os⟩ := by
  obtain ⟨sl, o2, u0, u1, cs, h2, e2, hsl⟩ := lt.e2
  obtain ⟨oK, hK, eK⟩ := lt.eK
  obtain ⟨ck, hkl⟩ := lt.ekl
  obtain ⟨vk0, ck0, hr0, hI0⟩ := lt.er0
  obtain ⟨vk1, ck1, hr1, hI1⟩ := lt.er1
  have hn := lt.n0
  have hn1 := lt.n1
  refine wpAny_execs_cons ?_
  refine x_AssLC ?_
  wtm_at "go2"
  with_reducible refine r_newTupleG F N ?_
  intro us tp h₂ hus F N l2 z2
  wtm_at "go2"
  with_reducible refine r_iterTuple F N (isTu (n0 N)) ?_
  intro it h₃ F N lit k3
  refine r_compForM (mu := []) (news := (tp, tupO us) :: W) (Iter.tuple tp us.toArray) am.hd F N (fun p hp => Nat.ne_of_lt (lit p hp)) (fun zz hp => nomatch hp) ⟨rfl, rfl⟩
    (fun i m ys nw gs' => Gs gs (∃ Ts : List Addr, ys = Ts.map Value.ref ∧ Its (fun a o => (a, o) ∈ nw) (kfI K0 K1) (pcT s0 s1) Ts (tagsTo s0 s1 i)) gs') ⟨[], rfl, Its.nil⟩ ?_ ?_
  · intro g' acc D sg kN nsL hsz
    refine ⟨fun i m ys nw gs h' zz k zz => isTu (k _ _ (kN _ (.head _))), ?_⟩
    intro i m ys c nw gs' h t o v hi zq11 hv _ F N hne hna
    obtain ⟨Ts, rfl, hS⟩ := zq11
    have hv : us[i]? = some v := by simpa using hv
    have hi2 : i < 2 := by
      have : us.length = 2 := by rw [hus]; rfl
      simp at hi; lia
    obtain ⟨ui, rfl⟩ : ∃ ui, v = .int (i : Nat) ui := int2_at hus hv hi2
    have Gg := G.keeps sg
    refine wpAny_pure ?_
    wtm_at "go2"
    wtm_at "sts"
    intro h₅ F N
    refine tests_nil ?_
    rw [if_pos rfl]
    refine r_within rfl ?_
    wtm_at "go2"
    with_reducible refine nm_B F Gg LN.nEnum bb_enumerate ?_
    wtm_at "go2"
    with_reducible refine nm_K F Gg LF.nPieces ?_
    wtm_at "go2"
    refine nm_C (F.keep _ _ (kN _ (.tail _ (hW _ h2)))) e2 ?_
    wtm_at "go2"
    have es := F.keep _ _ (kN _ (.tail _ (hW _ hsl)))
    obtain ⟨us2, hs2⟩ : ∃ us2, [Value.int (s0 : Nat) u0, .int (s1 : Nat) u1].toArray[((i : Int)).toNat]? = some (.int ((szOf s0 s1 i : Nat) : Int) us2) := sz2_at hi2
    with_reducible refine r_subL es (x := .int ((szOf s0 s1 i : Nat) : Int) us2) ?_ ?_ hs2 ?_
    · lia
    · lia
    wtm_at "go2"
    refine ⟨Kp.fnK LF.pieces (Gg.X.keeps F.keep), ?_⟩
    have hsz9 : szOf s0 s1 i ≤ 9 := by unfold szOf; split <;> lia
    refine pieces_spec LF.pieces LN.nRange (Gg.keeps F.keep) (fun zz zz e => e) (Nat.le_refl _) (am.mono (by decide)) i hi2 _ hsz9 _ _ ?_
    intro l h₆ t₆ pv pc k6 hl6 zl6 el hP
    obtain ⟨lp, hlp, hlp2⟩ := Pcs.led hP
    have hpvl := Pcs.length hP
    rw [piecesOf_len] at hpvl
    have eDn : h₅.get? D ≠ none := by
      obtain ⟨oD, es, ep, eD, r⟩ := F.ns
      have eD' : h₅.get? D = some oD := eD
      rw [eD']; intro z; cases z
    have gn : ∀ a, h₅.get? a = none → a ≠ D ∧ g'.get? a = none := by
      intro a ha
      constructor
      · intro e
        rw [e] at ha
        exact eDn ha
      · cases z : g'.get? a with
        | none => rfl
        | some o => have := F.keep _ _ z; rw [ha] at this; cases this
    have old : ∀ q ∈ (it, o) :: (acc, listOf (Ts.map Value.ref).toArray c) :: nw, ∀ a, h₅.get? a = none → a ≠ q.1 := fun q hq a ha e => by
      have := (N q hq).1
      rw [← e, ha] at this; cases this
    have N6 : News g' D h₆ ((l, listOf pv.toArray pc) :: (lp ++ ((it, o) :: (acc, listOf (Ts.map Value.ref).toArray c) :: nw))) := by
      intro q hq
      rcases List.mem_cons.mp hq with rfl | hq
      · exact ⟨el, gn _ hl6⟩
      rcases List.mem_append.mp hq with hq | hq
      · exact ⟨(hlp2 q hq).1.1, gn _ (hlp2 q hq).1.2⟩
      · exact ⟨k6 _ _ (N q hq).1, (N q hq).2⟩
    have F6 := Fr.sub F k6
    clear N F
    have F := F6
    have N := N6
    wtm_at "go2"
    refine r_enum F N (isL (n0 N)) ?_
    intro en it2 oi h₇ hIi F N lit2 lie z7 k7
    refine r_iterEnum (n0 N) ?_
    have ltE : ∀ p ∈ (l, listOf pv.toArray pc) :: (lp ++ ((it, o) :: (acc, listOf (Ts.map Value.ref).toArray c) :: nw)), p.1 < en := fun p hp => Nat.lt_trans (lit2 p hp) lie
    have pacc : (acc, listOf (Ts.map Value.ref).toArray c) ∈ (l, listOf pv.toArray pc) :: (lp ++ ((it, o) :: (acc, listOf (Ts.map Value.ref).toArray c) :: nw)) := .tail _ (List.mem_append_right _ (.tail _ (.head _)))
    have pit : (it, o) ∈ (l, listOf pv.toArray pc) :: (lp ++ ((it, o) :: (acc, listOf (Ts.map Value.ref).toArray c) :: nw)) := .tail _ (List.mem_append_right _ (.head _))
    have psub : ∀ p ∈ (l, listOf pv.toArray pc) :: (it, o) :: (lp ++ nw), p ∈ (l, listOf pv.toArray pc) :: (lp ++ ((it, o) :: (acc, listOf (Ts.map Value.ref).toArray c) :: nw)) := by
      refine pm_cons (.head _) (pm_cons pit (pm_app ?_ ?_))
      · exact fun p hp => .tail _ (List.mem_append_left _ hp)
      · exact fun p hp => .tail _ (List.mem_append_right _ (.tail _ (.tail _ hp)))
    have N8 := News.sub (l' := (en, enO it2 0 .none) :: (acc, listOf (Ts.map Value.ref).toArray c) :: (it2, oi) :: ((l, listOf pv.toArray pc) :: (it, o) :: (lp ++ nw))) N (pm_cons (.head _) (pm_cons (.tail _ (.tail _ pacc)) (pm_cons (.tail _ (.head _)) fun p hp => .tail _ (.tail _ (psub p hp)))))
    have ait : acc ≠ it := hne (acc, _) (.head _)
    have lacc : l ≠ acc := old (acc, _) (.tail _ (.head _)) l hl6
    have lit' : l ≠ it := old (it, _) (.head _) l hl6
    have lpacc : ∀ p ∈ lp, p.1 ≠ acc := fun p hp => old (acc, _) (.tail _ (.head _)) p.1 (hlp2 p hp).1.2
    have lpit : ∀ p ∈ lp, p.1 ≠ it := fun p hp => old (it, _) (.head _) p.1 (hlp2 p hp).1.2
    have lle : l < en := ltE (l, _) (.head _)
    refine comp_loopE (depth := 1) (l := l) (items := pv.toArray) am.hd rfl (ItJ gs s0 s1 K0 K1 l it pv pc o i ui lp) ?_ ?_ ?_
      ⟨?_, Ts, lp ++ nw, rfl, ?_, ?_, fun p hp => List.mem_append_left _ hp⟩ F N8 ?_ ?_ ?_ hIi
    · intro j m2 ys2 news2 gs2 h8 zq6 F8 N8
      obtain ⟨-, Ts2, nwj, -, -, -, -⟩ := zq6
      exact ⟨isL (n0 N8), Nat.ne_of_lt lle, Nat.ne_of_lt (lit2 (l, _) (.head _))⟩
    · intro j m2 ys2 c2 news2 gs2 h8 t8 oi2 x u hx zq12 F N hne2 hna2 hni2
      obtain ⟨hrow, Ts2, nwj, rfl, hS2, hnit, hlpn⟩ := zq12
      have hx : pv[j]? = some x := by simpa using hx
      obtain ⟨pa, x1, x2, w1, w2, rfl, hpa, hpj⟩ := hlp.get hx
      have hj : j < szOf s0 s1 i := by
        rcases Nat.lt_or_ge j pv.length with z | z
        · lia
        · rw [List.getElem?_eq_none z] at hx; cases hx
      have hpe : (x1, x2) = pcT s0 s1 (i, j) := by
        rw [← pc_at hi2, List.getD_eq_getElem?_getD, hpj]; rfl
      wtm_at "sts"
      intro h9 F N
      wtm_at "sts"
      intro h10 F N
      refine tests_nil ?_
      rw [if_pos rfl]
      refine r_emit rfl ?_
      wtm_at "go2"
      refine nm_C (F.keep _ _ (kN _ (.tail _ (hW _ hK)))) eK ?_
      wtm_at "go2"
      obtain ⟨ri, vr, cr, ks, hri, hrt, hIr, hksl, hkse⟩ := row_at hr0 hr1 hI0 hI1 hi2
      have ekl := F.keep _ _ (kN _ (.tail _ (hW _ hkl)))
      with_reducible refine r_subL ekl (x := .ref ri) ?_ ?_ hri ?_
      · lia
      · lia
      wtm_at "go2"
      obtain ⟨uk, huk⟩ := IntsAre.at_ hIr (i := j) (by rw [hksl, hn1.1, hn1.2]; exact hj)
      rw [hkse] at huk
      have erw := F.keep _ _ (kN _ (.tail _ (hW _ hrt)))
      with_reducible refine r_subL erw (x := .int (kfI K0 K1 (i, j)) uk) ?_ ?_ ?_ ?_
      · lia
      · lia
      · rw [Int.toNat_natCast]; simpa using huk
      wtm_at "go2"
      with_reducible refine r_newTuple F N ?_
      intro T h11 F N lT zT
      have hTs : T ∉ Ts2 := by
        intro hm
        obtain ⟨k, hk, he⟩ := List.getElem_of_mem hm
        have h3 : Ts2[k]? = some T := by rw [List.getElem?_eq_getElem hk, he]
        have hk2 : k < (tagsTo s0 s1 i ++ seg i 0 j).length := by rw [← hS2.len]; exact hk
        obtain ⟨a, u1, t1, t2, z1, -⟩ := hS2.at_ k T _ h3 (List.getElem?_eq_getElem hk2)
        exact absurd (lT _ (.tail _ (.tail _ (.tail _ (.tail _ (.tail _ z1)))))) (Nat.lt_irrefl _)
      have hyl := hS2.len
      have N12 := News.sub (l' := (acc, listOf (Ts2.map Value.ref).toArray c2) :: (en, enO it2 (j + 1 : Nat) (.ref pa)) :: (it2, oi2) :: (l, listOf pv.toArray pc) :: (it, o) :: (T, tupO [.int (kfI K0 K1 (i, j)) uk, .ref pa]) :: nwj) N (by
        refine pm_cons (by wtm_at "mm") (pm_cons (by wtm_at "mm") (pm_cons (by wtm_at "mm") (pm_cons (by wtm_at "mm") (pm_cons (by wtm_at "mm") (pm_cons (by wtm_at "mm") (pm_tail (pm_tail (pm_tail (pm_tail (pm_tail (pm_tail pm_id)))))))))))) 
      have aen : acc ≠ en := hne2 (acc, _) (.head _)
      have aT : T ≠ acc := Nat.ne_of_gt (lT (acc, listOf (Ts2.map Value.ref).toArray c2) (by wtm_at "mm"))
      have nj : ∀ p ∈ (l, listOf pv.toArray pc) :: (it, o) :: (T, tupO [.int (kfI K0 K1 (i, j)) uk, .ref pa]) :: nwj, p.1 ≠ acc := ne_cons lacc (ne_cons (Ne.symm ait) (ne_cons aT fun p hp => hna2 p (.tail _ (.tail _ (.tail _ hp)))))
      with_reducible refine r_append F N12 ?_ ?_ ?_
      · exact ne_cons (Ne.symm aen) (ne_cons (hna2 (it2, oi2) (.head _)) nj)
      · rw [List.size_toArray, List.length_map, hyl, sizeLine_eq, List.length_append, seg_len]
        have : (tagsTo s0 s1 i).length ≤ 9 := tags_len9 hi2 (by lia)
        lia
      intro h12 F N hsz12
      rw [List.push_toArray] at N
      have eys : Ts2.map Value.ref ++ [Value.ref T] = (Ts2 ++ [T]).map Value.ref := by simp
      rw [eys] at N
      refine cnext F (News.swap N) ?_ ?_ ⟨(l, listOf pv.toArray pc) :: (it, o) :: (T, tupO [.int (kfI K0 K1 (i, j)) uk, .ref pa]) :: nwj, _, ?_, ?_, Ts2 ++ [T], (T, tupO [.int (kfI K0 K1 (i, j)) uk, .ref pa]) :: nwj, rfl, ?_, ?_, fun p hp => .tail _ (hlpn p hp)⟩
      · refine ne_cons aen (ne_cons (hne2 (it2, oi2) (.tail _ (.head _))) (ne_cons (Nat.ne_of_lt lle) (ne_cons (hne2 (it, o) (by wtm_at "mm")) (ne_cons (Nat.ne_of_gt (lT (en, _) (by wtm_at "mm"))) fun p hp => hne2 p (.tail _ (.tail _ (.tail _ (.tail _ hp))))))))
      · exact ne_cons (hna2 (it2, oi2) (.head _)) nj
      · refine ne_cons (hni2 _ (.head _)) (ne_cons (hni2 _ (.tail _ (.head _))) (ne_cons (Nat.ne_of_gt (lT (it2, oi2) (by wtm_at "mm"))) fun p hp => hni2 p (.tail _ (.tail _ hp))))
      · with_unfolding_all exact hrow
      · rw [seg_succ, ← List.append_assoc]
        refine (hS2.mono fun zz zz z => .tail _ z).snoc ⟨pa, uk, w1, w2, .head _, ?_⟩ hTs
        rw [← hpe]
        exact .tail _ (hlpn _ hpa)
      · exact ne_cons (Nat.ne_of_gt (lT (it, o) (by wtm_at "mm"))) hnit
    · intro m2 ys2 c2 news2 gs2 h8 t8 zq7 F8 N8 hna8
      obtain ⟨-, Ts2, nwj, rfl, hS2, hnit, hlpn⟩ := zq7
      refine ⟨rfl, cnext F8 (News.sub (l' := (it, o) :: (acc, listOf (Ts2.map Value.ref).toArray c2) :: nwj) N8 (pm_cons (by wtm_at "mm") (pm_cons (.head _) (pm_tail (pm_tail (pm_tail pm_id)))))) (ne_cons ait hnit) (fun p hp => hna8 p (.tail _ (.tail _ hp))) ⟨Ts2, rfl, ?_⟩⟩
      have e9 : pv.toArray.size = (if i = 0 then s0 else s1) := by rw [List.size_toArray]; exact hpvl
      rw [e9] at hS2
      exact hS2
    · with_unfolding_all rfl
    · have e0 : seg i 0 0 = [] := rfl
      rw [e0, List.append_nil]
      exact hS.mono fun zz zz z => List.mem_append_right _ z
    · intro p hp
      rcases List.mem_append.mp hp with hp | hp
      · exact lpit p hp
      · exact hne p (.tail _ hp)
    · refine ne_cons (Nat.ne_of_lt (ltE _ pacc)) (ne_cons (Nat.ne_of_lt lie) fun p hp => Nat.ne_of_lt (ltE p (psub p hp)))
    · refine ne_cons (Nat.ne_of_gt (lit2 _ pacc)) (ne_cons lacc (ne_cons (Ne.symm ait) fun p hp => ?_))
      rcases List.mem_append.mp hp with hp | hp
      · exact lpacc p hp
      · exact hna p hp
    · exact fun p hp => Nat.ne_of_lt (lit2 p (psub p hp))
  · intro acc ys c nw h'' gs' t'' m' zq8 F N hne hap hac
    obtain ⟨Ts, rfl, hS⟩ := zq8
    have hus2 : us.toArray.size = 2 := by rw [hus]; rfl
    rw [hus2] at hS
    refine q acc Ts c nw h'' _ _ hS F (fun x hx => if_neg hx) (by with_unfolding_all rfl) (News.sub N (pm_cons (.head _) (pm_tail (pm_app (fun p hp => List.mem_append_left _ hp) fun p hp => List.mem_append_right _ (.tail _ hp))))) ?_ fun p hp p' hp' => hap p hp p' (.tail _ hp')
    intro p hp
    rcases List.mem_append.mp hp with hp | hp
    · exact hne p (List.mem_append_left _ hp)
    · exact hne p (List.mem_append_right _ (.tail _ hp))
end
end Mine
end
-- L14
section
namespace Mine
theorem intsOf (f : Tag → Int) : ∀ (l : List Tag), ∃ vs, IntsAre vs (l.map f)
  | [] => ⟨[], .nil⟩
  | x :: l => let ⟨vs, h⟩ := intsOf f l; ⟨_, .cons (f x) 0 h⟩
section
variable {w : World} {A : Around} {E : Value → Shared → Prop} {K : Frag} {mg mb : Str → Option Value} {h g : Heap} {gs : Array GenState} {d : Drawn} {t : Nat} {os : OsState} {L : Addr} {m : Str → Option Value}
set_option maxHeartbeats 2000000 in
theorem law21 (LN : LawN K) (G : Gd K mg mb g) (am : Amb A 29) (C : CodeHd g 213 211) (B : g.BuiltinsAt mg 211) {W tl : List (Addr × Obj)} {ps : Array Value} (F : Fr g L h m) (N : News g L h ((211, tabObj ps) :: W)) (hne : ∀ p ∈ W, p.1 ≠ 211) (htl : ∀ p ∈ tl, p ∈ W) (hT : TabT tl ps)
    {s0 s1 : Nat} {il : Addr} {ci : Nat} {Ts : List Addr} {k0 k1 : Nat → Int} {pf : Tag → Str × Str} (m1 : m "items" = some (.ref il)) (hil : (il, listOf (Ts.map Value.ref).toArray ci) ∈ W) (hS : Its (fun a o => (a, o) ∈ W) (keyT k0 k1) pf Ts (tagsTo s0 s1 2))
    (a0 : 1 ≤ s0) (a1 : s0 ≤ 9) (a2 : 1 ≤ s1) (a3 : s1 ≤ 9) {D : List Tag} (hD : D.Pairwise (bef k0 k1)) (hm : ∀ x, x ∈ D ↔ (x.1 = 0 ∧ x.2 < s0) ∨ (x.1 = 1 ∧ x.2 < s1)) (hDl : D.length = s0 + s1) {Q : Flow → Shared → Prop}
    (q : ∀ dl vs c ps' h' t' m', Fr g L h' m' → (∀ x : Str, x ≠ "due" → m' x = m x) → m' "due" = some (.ref dl) → News g L h' ((dl, listOf (List.toArray vs) c) :: (211, tabObj ps') :: W) → (∀ p ∈ (211, tabObj ps') :: W, p.1 ≠ dl) → Pcs (fun a o => (a, o) ∈ W) vs (D.map pf) →
      wpAny (model PW w) A (execs (b_law.drop 22) (lEnv L)) Q E ⟨h', gs, d, t', os⟩) :
    wpAny (model PW w) A (execs (b_law.drop 21) (lEnv L)) Q E ⟨h, gs, d, t, os⟩ := by
  have hlen : Ts.length = s0 + s1 := by rw [hS.len, tags2_len]
  refine wpAny_execs_cons ?_
  refine x_AssLC ?_
  wtm_at "go2"
  with_reducible refine nm_B F G LN.nSorted bb_sorted ?_
  with_reducible refine x_cw ?_
  wtm_at "go2"
  refine r_lambda F G N hne C (hT h (fun p hp => na N (.tail _ (htl p hp))) _) B ?_
  intro f c' ctv h₂ t₂ ps2 own F N hf hown hrec hzf
  wtm_at "go2"
  have hof := n0 N
  have hil2 := na N (.tail _ (.tail _ (List.mem_append_right _ hil)))
  have hrec : ∀ h'' : Heap, (∀ p ∈ own, h''.get? p.1 = some p.2) → (TabOk h'' ⟨195, 53, 195, 73⟩ lawQ ps → h''.CodeRec (.ref c') lawQ) ∧ ∀ p, TabOk h'' p lawQ ps → TabOk h'' p lawQ ps2 := hrec
  show wpAny _ _ (call (.builtin "sorted") [_] [("key", _)]) _ _ _
  refine call_sorted (ρ := rho Ts) (kz := (tagsTo s0 s1 2).map (keyT k0 k1)) F N hil2 ?_ ?_ ?_ (fun i v hv => rho_at hS.nd hv) ?_ ?_
  · rw [List.length_map, List.length_map, tags2_len, hlen]
  · rw [List.length_map]; lia
  · rw [List.length_map]; lia
  · intro i v k hv hk h3 t3 own3 F3 N3
    rw [List.getElem?_map] at hv hk
    obtain ⟨T, hTi, rfl⟩ := Option.map_eq_some_iff.mp hv
    obtain ⟨x, hxi, rfl⟩ := Option.map_eq_some_iff.mp hk
    obtain ⟨a, u, t1, t2, hTa, -⟩ := hS.at_ i T x hTi hxi
    have inW : ∀ {p}, p ∈ W → h3.get? p.1 = some p.2 := fun hp => na N3 (List.mem_append_left _ (.tail _ (.tail _ (List.mem_append_right _ hp))))
    have inO : ∀ {p}, p ∈ own → h3.get? p.1 = some p.2 := fun hp => na N3 (List.mem_append_left _ (.tail _ (.tail _ (List.mem_append_left _ hp))))
    have hcd : h3.CodeRec (.ref c') lawQ := (hrec h3 fun p hp => inO hp).1 (hT h3 (fun p hp => inW (htl p hp)) _)
    refine call_lam (am.in1.in1).room (na N3 (List.mem_append_left _ (.head _))) hcd (G.keeps F3.keep) (fun zz zz e => e) (Nat.le_refl _) (W := []) (fun zz hp => nomatch hp) (binds := [("item", .ref T)]) (by kernel_rfl) ?_
    intro L2 h4 t4 F4 N4 lx kp hL
    wtm_at "go2"
    with_reducible refine r_subT (kp _ _ (inW hTa)) (x := .int (keyT k0 k1 x) u) ?_ ?_ ?_ ?_
    · decide
    · decide
    · rfl
    exact KskEnd.intro (Fr.sub F3 kp) (News.keep N3 kp) fun p hp => hp
  intro Dl h₃ t₃ out cD F N hDlt hK
  have hout := sorted_tags hlen hS.nd hK hD hm
  subst hout
  with_reducible refine r_iterList F N (isL (n0 N)) ?_
  intro it h₄ F N lit k4
  refine r_compForM (mu := []) (Iter.list Dl (D.map fun x => Value.ref (Ts.getD (ix s0 x) 0)).toArray) am.hd F N (lt_ne lit) (fun zz hp => nomatch hp) ⟨rfl, rfl⟩
    (PlainJ gs fun i ys => Pcs (fun a o => (a, o) ∈ W) ys ((D.take i).map pf)) ⟨.nil⟩ ?_ ?_
  · intro g' acc DD sg kN nsL hsz
    refine ⟨fun i m ys nw gs h' zz k zz => isL (k _ _ (kN _ (.head _))), ?_⟩
    intro i m ys c nw gs' h t o v hi zq11 hv hI F N hne hna
    obtain ⟨hP⟩ := zq11
    have hi' : i < D.length := by simpa using hi
    have hv : (D.map fun x => Value.ref (Ts.getD (ix s0 x) 0))[i]? = some v := by simpa using hv
    rw [List.getElem?_map, List.getElem?_eq_getElem hi'] at hv
    cases hv
    obtain ⟨a, u, t1, t2, hTa, ha⟩ := hS.get ((hm D[i]).mp (List.getElem_mem hi'))
    have inW : ∀ {p}, p ∈ W → g'.get? p.1 = some p.2 := fun hp => kN _ (.tail _ (.tail _ (.tail _ (List.mem_append_right _ hp))))
    refine wpAny_letOwnedTupleGo_listiter (l := Dl) (i := i + 1) ⟨_, n0 N, hI⟩ ?_
    refine r_asTup am.hd F N (F.keep _ _ (inW hTa)) ?_
    intro h₆ F N k6
    refine x_ord ?_
    wtm_at "sts"
    intro h₇ F N
    refine x_ord ?_
    wtm_at "sts"
    intro h₈ F N
    refine x_ord0 ?_
    refine tests_nil ?_
    rw [if_pos rfl]
    refine r_emit rfl ?_
    wtm_at "go2"
    have hyl := Pcs.length hP
    rw [List.length_map, List.length_take] at hyl
    with_reducible refine r_append F (News.swap N) ?_ ?_ ?_
    · exact ne_cons (Ne.symm (hne _ (.head _))) ne_nil
    · rw [List.size_toArray, sizeLine_eq]; lia
    intro h₉ F9 N9 hsz9
    rw [List.push_toArray] at N9
    refine cnext F9 (News.swap N9) (ne_cons (p := (acc, _)) (hne (acc, listOf (List.toArray ys) c) (.head _)) ne_nil) ne_nil ⟨?_⟩
    rw [List.take_add_one, List.getElem?_eq_getElem hi', List.map_append]
    exact Pcs.append hP (.cons a _ _ t1 t2 ha .nil)
  · intro acc ys c nw h'' gs' t'' m' zq8 F N hne hap hac
    obtain ⟨hP⟩ := zq8
    have e : D.take (D.map fun x => Value.ref (Ts.getD (ix s0 x) 0)).toArray.size = D := List.take_of_length_le (by simp)
    rw [e] at hP
    refine q acc ys c ps2 h'' _ _ F (fun x hx => if_neg hx) (by with_unfolding_all rfl) (News.sub N (pm_cons (.head _) (pm_cons (.tail _ (.tail _ (.tail _ (.head _)))) fun p hp => .tail _ (.tail _ (.tail _ (.tail _ (List.mem_append_right _ hp))))))) ?_ hP
    refine ne_cons (hne (211, tabObj ps2) (.tail _ (.tail _ (.head _)))) fun p hp => hne p (.tail _ (.tail _ (.tail _ (List.mem_append_right _ hp))))
end
end Mine
end
-- L15
section
namespace Mine
theorem jn_eq (x y : Str) : x ++ y = jn (x, y) := by
  show x ++ y = (⟨x.cps ++ (Str.ofString "").cps ++ y.cps⟩ : Str)
  have e : (Str.ofString "").cps = #[] := rfl
  rw [e, Array.append_empty]
  rfl
theorem jn_sum : ∀ (qs : List (Str × Str)), (∀ p ∈ qs, p.1.length + p.2.length ≤ 2) → ((qs.map jn).map (·.length)).sum ≤ qs.length * 2
  | [], _ => by simp
  | p :: r, hq => by
    have h1 := hq p (.head _)
    have h2 := jn_sum r fun x hx => hq x (.tail _ hx)
    have h3 := jn_len p
    simp only [List.map_cons, List.sum_cons, List.length_cons, Nat.succ_mul] at h2 ⊢
    lia
section
variable {w : World} {A : Around} {E : Value → Shared → Prop} {K : Frag} {mg mb : Str → Option Value} {h g : Heap} {gs : Array GenState} {d : Drawn} {t : Nat} {os : OsState} {L : Addr} {m : Str → Option Value}
set_option maxHeartbeats 2000000 in
theorem law22 (am : Amb A 29) {W : List (Addr × Obj)} {dl : Addr} {c : Nat} {vs : List Value} {ps : List (Str × Str)} (F : Fr g L h m) (m1 : m "due" = some (.ref dl)) (N : News g L h W) (hdl : (dl, listOf vs.toArray c) ∈ W) (hP : Pcs (fun a o => (a, o) ∈ W) vs ps) (hps : ∀ p ∈ ps, p.1.length + p.2.length ≤ 2) (hz : ps.length ≤ 18) {Q : Flow → Shared → Prop}
    (q : ∀ u h' t' m', Fr g L h' m' → (∀ x : Str, x ≠ "text" → m' x = m x) → m' "text" = some (.str (Txt.join "" (ps.map jn)) u) → News g L h' W →
      wpAny (model PW w) A (execs (b_law.drop 23) (lEnv L)) Q E ⟨h', gs, d, t', os⟩) :
    wpAny (model PW w) A (execs (b_law.drop 22) (lEnv L)) Q E ⟨h, gs, d, t, os⟩ := by
  have hvl := Pcs.length hP
  refine wpAny_execs_cons ?_
  wtm_at "go2"
  refine PySem.GM.join ?_
  wtm_at "go2"
  with_reducible refine x_LC ?_
  wtm_at "go2"
  with_reducible refine r_iterList F N (isL (na N hdl)) ?_
  intro it h₄ F N lit k4
  refine r_compForP (Iter.list dl vs.toArray) am.hd F N (lt_ne lit) ⟨rfl, rfl⟩ (fun i ys => StrsAre ys ((ps.take i).map jn)) .nil ?_ ?_
  · intro g' acc D sg kN nsL hsz
    refine ⟨fun h' k => isL (k _ _ (kN _ hdl)), ?_⟩
    intro i m ys c h t o v hi hS F N hai hI hv
    have hi' : i < ps.length := by simp at hi; lia
    obtain ⟨a, x, y, u1, u2, rfl, ha, hpi⟩ := hP.get (show vs[i]? = some v by simpa using hv)
    have hxy := hps _ (List.mem_of_getElem? hpi)
    refine wpAny_letOwnedTupleGo_listiter (l := dl) (i := i + 1) ⟨_, n0 N, hI⟩ ?_
    refine r_asTup am.hd F N (F.keep _ _ (kN _ ha)) ?_
    intro h₆ F N k6
    refine x_ord ?_
    wtm_at "sts"
    intro h₇ F N
    refine x_ord ?_
    wtm_at "sts"
    intro h₈ F N
    refine x_ord0 ?_
    refine tests_nil ?_
    rw [if_pos rfl]
    refine r_emit rfl ?_
    wtm_at "go2"
    refine PyProof.Rows.add_str ?_ (by dsimp only at hxy; rw [sizeLine_eq]; lia)
    intro t' tk
    dsimp only
    rw [jn_eq]
    have hyl := StrsAre.len_eq hS
    rw [List.length_map, List.length_take] at hyl
    refine papp F N hai (by rw [sizeLine_eq]; lia) ?_
    rw [List.take_add_one, hpi, List.map_append]
    exact hS.append' (.cons _ _ .nil)
  · intro acc ys c h'' t'' hS F N hne hac
    have e : ps.take vs.toArray.size = ps := List.take_of_length_le (by simp; lia)
    rw [e] at hS
    wtm_at "go2"
    refine join_list (isL (n0 N)) (by simpa using hS) ?_ ?_
    · have h1 := jn_sum ps hps
      have h2 : (Str.ofString "").length = 0 := rfl
      rw [h2, Nat.mul_zero]
      lia
    intro t' k
    wtm_at "sts"
    intro h₉ F N
    refine q _ h₉ _ _ F (fun x hx => if_neg hx) (by with_unfolding_all rfl) (News.sub N (pm_tail pm_id))
end
end Mine
end
-- P8
section
namespace Mine
theorem pieces_two : ((List.range 2).all fun r => (List.range 10).all fun n => (piecesOf r n).all fun p => decide (p.1.length + p.2.length ≤ 2)) = true := by decide +kernel
theorem pcT_two {s0 s1 : Nat} (a0 : s0 ≤ 9) (a1 : s1 ≤ 9) {x : Tag} (h : inR s0 s1 x) : (pcT s0 s1 x).1.length + (pcT s0 s1 x).2.length ≤ 2 := by
  have key : ∀ {r n : Nat}, r < 2 → n ≤ 9 → ∀ p ∈ piecesOf r n, p.1.length + p.2.length ≤ 2 := by
    intro r n hr hn p hp
    have h1 := List.all_eq_true.mp pieces_two r (List.mem_range.mpr hr)
    have h2 := List.all_eq_true.mp h1 n (List.mem_range.mpr (by lia))
    exact of_decide_eq_true (List.all_eq_true.mp h2 p hp)
  rcases pcT_mem h with h | h
  · exact key (by decide) a0 _ h
  · exact key (by decide) a1 _ h
theorem glue_size : ∀ (l : List Str) (a : Array Nat), (l.foldl (fun acc p => acc ++ (Str.ofString "").cps ++ p.cps) a).size = a.size + (l.map (·.length)).sum
  | [], a => by simp
  | x :: r, a => by
    rw [List.foldl_cons, glue_size r, Array.size_append, Array.size_append, List.map_cons, List.sum_cons]
    have e : (Str.ofString "").cps.size = 0 := rfl
    rw [e]
    show a.size + 0 + x.cps.size + _ = a.size + (x.cps.size + _)
    lia
theorem glue_all : ∀ (l : List Str) (a : Array Nat), a.all (· < 0x110000) = true → (∀ x ∈ l, PyData.strOk x = true) → (l.foldl (fun acc p => acc ++ (Str.ofString "").cps ++ p.cps) a).all (· < 0x110000) = true
  | [], a, h, _ => h
  | x :: r, a, h, hl => by
    rw [List.foldl_cons]
    refine glue_all r _ ?_ fun y hy => hl y (.tail _ hy)
    have h1 : x.cps.all (· < 0x110000) = true := hl x (.head _)
    have h2 : (Str.ofString "").cps.all (· < 0x110000) = true := by decide +kernel
    rw [Array.all_append, Array.all_append, h, h1, h2]
    rfl
theorem join_len : ∀ (l : List Str), (Txt.join "" l).length = (l.map (·.length)).sum
  | [] => rfl
  | x :: r => by
    show ((r.foldl (fun acc p => acc ++ (Str.ofString "").cps ++ p.cps) x.cps)).size = _
    rw [glue_size]
    rfl
theorem join_ok : ∀ (l : List Str), (∀ x ∈ l, PyData.strOk x = true) → PyData.strOk (Txt.join "" l) = true
  | [], _ => by decide +kernel
  | x :: r, h => glue_all r x.cps (h x (.head _)) fun y hy => h y (.tail _ hy)
theorem jn_ok {p : Str × Str} (h1 : PyData.strOk p.1 = true) (h2 : PyData.strOk p.2 = true) : PyData.strOk (jn p) = true := join_ok [p.1, p.2] (by
  intro x hx
  rcases List.mem_cons.mp hx with rfl | hx
  · exact h1
  · rw [List.mem_singleton.mp hx]; exact h2)
theorem total_len (ps : List (Str × Str)) : total ps = ((Txt.join "" (ps.map jn)).length : Int) := by
  rw [join_len, List.map_map]
  unfold total
  induction ps with
  | nil => rfl
  | cons p r ih =>
    simp only [List.map_cons, List.sum_cons, Int.natCast_add]
    rw [ih]
    have := jn_len p
    simp only [Function.comp]
    rw [this]
    rfl
theorem total_le : ∀ (ps : List (Str × Str)), (∀ p ∈ ps, p.1.length + p.2.length ≤ 2) → 0 ≤ total ps ∧ total ps ≤ 2 * ps.length
  | [], _ => by simp [total]
  | p :: r, h => by
    have h1 := h p (.head _)
    have h2 := total_le r fun x hx => h x (.tail _ hx)
    have e : total (p :: r) = sz2 p + total r := by simp [total]
    rw [e]
    unfold sz2
    simp only [List.length_cons]
    lia
end Mine
end
-- L16
section
namespace Mine
structure SpcK (K : Frag) : Prop where
  str : findIn K (.ref 164) "__str__" = some (some (.ref 138))
  strF : isFn K (.ref 138) = true
  len : findIn K (.ref 164) "__len__" = some (some (.ref 131))
  lenF : isFn K (.ref 131) = true
noncomputable def TabO (o : Obj) : Prop := ∃ ps, o = tabObj ps ∧ TriplesOk ps.toList
theorem TabO.tabl {h : Heap} {P : Addr} {o : Obj} (x : TabO o) (e : h.get? P = some o) : Tabl h P := let ⟨ps, a, b⟩ := x; ⟨ps, a ▸ e, b⟩
theorem Tabl.obj {h : Heap} {P : Addr} (x : Tabl h P) : ∃ o, h.get? P = some o ∧ TabO o := let ⟨ps, a, b⟩ := x; ⟨_, a, ps, rfl, b⟩
section
variable {w : World} {A : Around} {E : Value → Shared → Prop} {K : Frag} {mg mb : Str → Option Value} {h g : Heap} {gs : Array GenState} {d : Drawn} {t : Nat} {os : OsState} {L : Addr} {m : Str → Option Value}
set_option maxHeartbeats 4000000 in
theorem law23 (LN : LawN K) (LF : LawF K) (SP : SpcK K) (G : Gd K mg mb g) (am : Amb A 29) (C126 : CodeHd g 130 126) (B126 : g.BuiltinsAt mg 126) (C133 : CodeHd g 137 133) (B133 : g.BuiltinsAt mg 133)
    {W : List (Addr × Obj)} {o126 o133 od2 : Obj} {p2 x2 dl : Addr} {n2 c : Nat} {u2 ut : Tok} {us vs : List Value} {ps : List (Str × Str)} (F : Fr g L h m) (N : News g L h ((126, o126) :: (133, o133) :: (p2, accO x2 us.toArray n2) :: W))
    (T126 : TabO o126) (T133 : TabO o133) (hn : (126 : Addr) ≠ 133 ∧ (126 : Addr) ≠ p2 ∧ (133 : Addr) ≠ p2) (hW : ∀ p ∈ W, p.1 ≠ 126 ∧ p.1 ≠ 133 ∧ p.1 ≠ p2) (hx2 : (x2, od2) ∈ W) (hi : IniD od2 (.int 0 u2))
    (m1 : m "third" = some (.ref p2)) (m2 : m "text" = some (.str (Txt.join "" (ps.map jn)) ut)) (m3 : m "due" = some (.ref dl)) (hdl : (dl, listOf vs.toArray c) ∈ W)
    (hP : Pcs (fun a o => (a, o) ∈ W) us ps) (hV : Pcs (fun a o => (a, o) ∈ W) vs ps) (hps : ∀ p ∈ ps, p.1.length + p.2.length ≤ 2) (hok : ∀ p ∈ ps, PyData.strOk p.1 = true ∧ PyData.strOk p.2 = true) (hz : ps.length ≤ 18) {Q : Flow → Shared → Prop}
    (q : ∀ o126' o133' h' gs' t', TabO o126' → TabO o133' → (AllBare gs → AllBare gs') → Fr g L h' m → News g L h' ((126, o126') :: (133, o133') :: W) →
      wpAny (model PW w) A (execs (b_law.drop 24) (lEnv L)) Q E ⟨h', gs', d, t', os⟩) :
    wpAny (model PW w) A (execs (b_law.drop 23) (lEnv L)) Q E ⟨h, gs, d, t, os⟩ := by
  have MK := LF.tkn.meth
  have hul := Pcs.length hP
  have hvl := Pcs.length hV
  have htot := total_le ps hps
  have hsm : ∀ p ∈ ps, p.1.length + p.2.length < 1000 := fun p hp => Nat.lt_of_le_of_lt (hps p hp) (by decide)
  have ne126 : ∀ p ∈ W, p.1 ≠ 126 := fun p hp => (hW p hp).1
  have ne133 : ∀ p ∈ W, p.1 ≠ 133 := fun p hp => (hW p hp).2.1
  have nep2 : ∀ p ∈ W, p.1 ≠ p2 := fun p hp => (hW p hp).2.2
  refine wpAny_execs_cons ?_
  wtm_at "go2"
  with_reducible refine nm_B F G LN.nStr bb_str ?_
  wtm_at "go2"
  have mw : ∀ {a b c : Addr × Obj} {p}, p ∈ W → p ∈ a :: b :: c :: W := fun hp => .tail _ (.tail _ (.tail _ hp))
  have I1 : Acc h p2 x2 us.toArray n2 od2 := ⟨na N (by wtm_at "mm"), na N (mw hx2)⟩
  have g133 := (N (133, o133) (by wtm_at "mm")).2
  have sg1 : Sub g (h.hide 133) := subHideR F.keep g133.2
  refine kso_call (am.in1.in1).unit (G.X.keeps F.keep) I1.inst SP.str SP.strF ?_
  refine str_spec MK LF.len (G.keeps sg1) (C133.keeps sg1) (B133.keeps sg1) (T133.tabl (na N (by wtm_at "mm"))) (am.in1.in1.mono (by decide)) I1 hi (hP.mono fun a o x => na N (mw x)) (by decide) (by decide) hsm (by lia) ?_
  intro h₂ gs₂ t₂ u hb2 k2 T2
  obtain ⟨o133', e133, T133'⟩ := T2.obj
  have F2 := Fr.ext F g133.1 g133.2 (of_hide' k2)
  have N2 := News.cons (News.ext (News.sub (l' := (126, o126) :: (p2, accO x2 us.toArray n2) :: W) N (pm_cons (by wtm_at "mm") (pm_cons (by wtm_at "mm") (pm_tail (pm_tail (pm_tail pm_id)))))) (ne_cons hn.1 (ne_cons (Ne.symm hn.2.2) ne133)) (of_hide' k2)) e133 g133.1 g133.2
  have N2 := News.sub (l' := (126, o126) :: (p2, accO x2 us.toArray n2) :: ((133, o133') :: W)) N2 (pm_cons (by wtm_at "mm") (pm_cons (by wtm_at "mm") (pm_cons (by wtm_at "mm") (pm_tail (pm_tail (pm_tail pm_id))))))
  have ne126 : ∀ p ∈ (133, o133') :: W, p.1 ≠ 126 := ne_cons (Ne.symm hn.1) ne126
  have nep2 : ∀ p ∈ (133, o133') :: W, p.1 ≠ p2 := ne_cons hn.2.2 nep2
  have hx2 : (x2, od2) ∈ (133, o133') :: W := .tail _ hx2
  have hdl : (dl, listOf vs.toArray c) ∈ (133, o133') :: W := .tail _ hdl
  have hP : Pcs (fun a o => (a, o) ∈ (133, o133') :: W) us ps := hP.mono fun zz zz z => .tail _ z
  have hV : Pcs (fun a o => (a, o) ∈ (133, o133') :: W) vs ps := hV.mono fun zz zz z => .tail _ z
  have q := fun o126' h' gs' t' a b c d => q o126' o133' h' gs' t' a T133' b c d
  generalize (133, o133') :: W = W at N2 ne126 nep2 hx2 hdl hP hV q
  clear N F
  have F := F2
  have N := N2
  show wpAny _ _ _ _ _ _
  wtm_at "go2"
  with_reducible refine nm_B F G LN.nLen bb_len ?_
  wtm_at "go2"
  have mw2 : ∀ {a b : Addr × Obj} {p}, p ∈ W → p ∈ a :: b :: W := fun hp => .tail _ (.tail _ hp)
  have I2 : Acc h₂ p2 x2 us.toArray n2 od2 := ⟨na N (by wtm_at "mm"), na N (mw2 hx2)⟩
  have g126 := (N (126, o126) (by wtm_at "mm")).2
  have sg2 : Sub g (h₂.hide 126) := subHideR F.keep g126.2
  refine len_K F G.X I2.inst SP.len SP.lenF ?_
  refine len_spec MK LF.len (G.keeps sg2) (C126.keeps sg2) (B126.keeps sg2) (T126.tabl (na N (by wtm_at "mm"))) (am.in1.mono (by decide)) I2 hi (hP.mono fun a o x => na N (mw2 x)) (by decide) (by decide) hsm ?_
  intro h₃ gs₃ t₃ u3 hb3 k3 T3
  obtain ⟨o126', e126, T126'⟩ := T3.obj
  refine ⟨⟨by lia, by lia⟩, ?_⟩
  have F3 := Fr.ext F g126.1 g126.2 (of_hide' k3)
  have N3 := News.cons (News.ext (News.sub (l' := (p2, accO x2 us.toArray n2) :: W) N (pm_tail pm_id)) (ne_cons (Ne.symm hn.2.1) ne126) (of_hide' k3)) e126 g126.1 g126.2
  clear N F
  have F := F3
  have N := N3
  dsimp only
  wtm_at "go2"
  have I3 : Acc h₃ p2 x2 us.toArray n2 od2 := ⟨na N (by wtm_at "mm"), na N (mw2 hx2)⟩
  refine m_count (name := "part_count") (G.X.keeps F.keep) MK I3 hi ?_
  wtm_at "go2"
  refine ⟨Kp.fnK MK.count (G.X.keeps F.keep), ?_⟩
  refine count_spec MK.count MK.scount MK.cls MK.sup (G.keeps F.keep) (am.mono (by decide)) I3 ?_
  intro h₄ t₄ w4 k4
  have F4 := Fr.sub F k4
  have N4 := News.keep N k4
  clear N F
  have F := F4
  have N := N4
  wtm_at "go2"
  have I4 : Acc h₄ p2 x2 us.toArray n2 od2 := ⟨na N (by wtm_at "mm"), na N (mw2 hx2)⟩
  refine r_meth (G.X.keeps F.keep) MK.cls I4 MK.f_popf.1 (.inl MK.f_popf.2) (hi.miss (by decide +kernel)) ?_
  wtm_at "go2"
  refine ⟨Kp.fnK MK.popf (G.X.keeps F.keep), ?_⟩
  have gp2 := (N (p2, accO x2 us.toArray n2) (by wtm_at "mm")).2
  refine popf_spec MK (G.keeps (subHideR F.keep gp2.2)) (am.mono (by decide)) I4 hi (by rw [sizeLine_eq]; lia) (i := 0) (Nat.zero_le _) ?_
  intro a5 h₅ t₅ n5 c5 k5 z5 e5 ep5
  have a5n : a5 ≠ L ∧ g.get? a5 = none := ⟨Nat.ne_of_gt (Nat.lt_of_lt_of_le (Fr.lt F) z5), none_of_size (Nat.le_trans (Fr.szle F) z5)⟩
  have F5 := Fr.ext F gp2.1 gp2.2 (of_hide' k5)
  have N5 := News.cons (News.ext (News.sub (l' := (126, o126') :: W) N (pm_cons (by wtm_at "mm") (pm_tail (pm_tail pm_id)))) (ne_cons hn.2.1 nep2) (of_hide' k5)) e5 a5n.1 a5n.2
  rw [List.drop_zero] at N5
  clear N F
  have F := F5
  have N := N5
  wtm_at "go2"
  with_reducible refine r_newTuple F N ?_
  intro ta h₆ F N l6 _
  wtm_at "go2"
  with_reducible refine nm_B F G LN.nLen bb_len ?_
  wtm_at "go2"
  have hjl := total_len ps
  refine PyProof.Rows.len_str (by lia) ?_
  wtm_at "go2"
  with_reducible refine nm_B F G LN.nLen bb_len ?_
  wtm_at "go2"
  have edl := na N (.tail _ (.tail _ (.tail _ hdl)))
  refine PyProof.Rows.len_list (isL edl) (by rw [List.size_toArray]; lia) ?_
  wtm_at "go2"
  with_reducible refine r_newTuple F N ?_
  intro tb h₇ F N l7 _
  have inW : ∀ a o, (a, o) ∈ W → h₇.get? a = some o := fun a o hp => na N (.tail _ (.tail _ (.tail _ (.tail _ hp))))
  have tok := join_ok (ps.map jn) (fun x hx => by
    obtain ⟨p, hp, rfl⟩ := List.mem_map.mp hx
    exact jn_ok (hok p hp).1 (hok p hp).2)
  have e1 : (0 : Int) + total ps = ((Txt.join "" (ps.map jn)).length : Int) := by lia
  have e2 : ((us.toArray.size : Nat) : Int) = ((vs.toArray.size : Nat) : Int) := by rw [List.size_toArray, List.size_toArray]; lia
  have R1 : Rd h₇ 4 (.ref ta) (.tuple [.str (Txt.join "" (ps.map jn)), .int ((Txt.join "" (ps.map jn)).length : Int), .int ((vs.toArray.size : Nat) : Int), .list (ps.map fun p => .tuple [.str p.1, .str p.2])]) := by
    have := n1 N
    rw [e1, e2] at this
    refine Rd.tuple this (Rds.cons ((Rd.str _ tok).mono (by decide)) (Rds.cons ((Rd.int _ _).mono (by decide)) (Rds.cons ((Rd.int _ _).mono (by decide)) (Rds.cons ?_ .nil))))
    exact Rd.list (k := 2) (na N (.tail _ (.tail _ (.head _)))) (Rds.pcs (O := fun a o => (a, o) ∈ W) inW hok hP)
  have R2 : Rd h₇ 4 (.ref tb) (.tuple [.str (Txt.join "" (ps.map jn)), .int ((Txt.join "" (ps.map jn)).length : Int), .int ((vs.toArray.size : Nat) : Int), .list (ps.map fun p => .tuple [.str p.1, .str p.2])]) := by
    refine Rd.tuple (n0 N) (Rds.cons ((Rd.str _ tok).mono (by decide)) (Rds.cons ((Rd.int _ _).mono (by decide)) (Rds.cons ((Rd.int _ _).mono (by decide)) (Rds.cons ?_ .nil))))
    exact Rd.list (k := 2) (inW _ _ hdl) (Rds.pcs (O := fun a o => (a, o) ∈ W) inW hok hV)
  refine r_neSame R1 R2 (by decide) (by have := am.un; lia) ?_
  refine wpAny_truthy_bool ?_
  rw [if_neg (by decide)]
  refine wpAny_execs_nil ?_
  show wpAny _ _ (execs (b_law.drop 24) (lEnv L)) _ _ _
  exact q o126' h₇ gs₃ _ T126' (fun z => hb3 (hb2 z)) F (News.sub N (pm_tail (pm_tail (pm_tail pm_id))))
end
end Mine
end
-- L17
section
namespace Mine
theorem t_eq {m n T : Nat} (hm : 1 ≤ m) (hmn : m ≤ n) (hn : n ≤ 9) (h1 : m * 2 ^ T ≤ n) (h2 : ∀ k, k < 4 → m * 2 ^ k ≤ n → k ≤ T) : T = Nat.log2 (n / m) := by
  have h0 : n / m ≠ 0 := by have := (Nat.one_le_div_iff (show 0 < m by lia)).mpr hmn; lia
  have hl := Nat.log2_self_le h0
  have h9 : n / m ≤ 9 := Nat.le_trans (Nat.div_le_self n m) hn
  have hk : Nat.log2 (n / m) < 4 := (Nat.log2_lt h0).mpr (by lia)
  have a1 : T ≤ Nat.log2 (n / m) := (Nat.le_log2 h0).mpr ((Nat.le_div_iff_mul_le (by lia)).mpr (by rw [Nat.mul_comm]; exact h1))
  have a2 := h2 (Nat.log2 (n / m)) hk (by
    have := (Nat.le_div_iff_mul_le (show 0 < m by lia)).mp hl
    rw [Nat.mul_comm]; exact this)
  lia
noncomputable def tks (m n i : Nat) : List Nat := (List.range i).filter fun k => decide (m * 2 ^ k ≤ n)
section
variable {w : World} {A : Around} {E : Value → Shared → Prop} {K : Frag} {mg mb : Str → Option Value} {h g : Heap} {gs : Array GenState} {d : Drawn} {t : Nat} {os : OsState} {L : Addr} {m : Str → Option Value}
set_option maxHeartbeats 2000000 in
theorem law24 (LN : LawN K) (G : Gd K mg mb g) (am : Amb A 29) {W : List (Addr × Obj)} {o2 o4 o5 : Obj} {sl : Addr} {cs s0 s1 : Nat} {u0 u1 : Tok} (F : Fr g L h m) (N : News g L h ((cM L, o4) :: (cN L, o5) :: W)) (e4 : o4.data = .cell none) (e5 : o5.data = .cell none) (hW : ∀ p ∈ W, p.1 ≠ cM L ∧ p.1 ≠ cN L)
    (h2 : (L + 1 + 1, o2) ∈ W) (e2 : o2.data = .cell (some (.ref sl))) (hsl : (sl, listOf [Value.int (s0 : Nat) u0, .int (s1 : Nat) u1].toArray cs) ∈ W) (a0 : 1 ≤ s0) (a1 : s0 ≤ 9) (a2 : 1 ≤ s1) (a3 : s1 ≤ 9) {Q : Flow → Shared → Prop}
    (q : ∀ o4' o5' v1 v2 ut h' t' m', o4'.data = .cell (some (.int ((min s0 s1 : Nat) : Int) v1)) → o5'.data = .cell (some (.int ((max s0 s1 : Nat) : Int) v2)) → Fr g L h' m' → (∀ x : Str, x ≠ "t" → m' x = m x) → m' "t" = some (.int ((Nat.log2 (max s0 s1 / min s0 s1) : Nat) : Int) ut) → News g L h' ((cM L, o4') :: (cN L, o5') :: W) →
      wpAny (model PW w) A (execs (b_law.drop 26) (lEnv L)) Q E ⟨h', gs, d, t', os⟩) :
    wpAny (model PW w) A (execs (b_law.drop 24) (lEnv L)) Q E ⟨h, gs, d, t, os⟩ := by
  have hcc : cN L ≠ cM L := Nat.ne_of_gt (Nat.lt_succ_self _)
  refine wpAny_execs_cons ?_
  wtm_at "go2"
  with_reducible refine x_AssTup ?_
  wtm_at "go2"
  with_reducible refine nm_B F G LN.nMin bb_min ?_
  wtm_at "go2"
  refine nm_C (na N (.tail _ (.tail _ h2))) e2 ?_
  wtm_at "go2"
  refine min_list_N am.hd F N (isL (na N (.tail _ (.tail _ hsl)))) (.cons _ _ (.cons _ _ .nil)) (by simp) ?_
  intro h₂ M1 v1 tk1 F N hm1 hm2
  wtm_at "go2"
  with_reducible refine nm_B F G LN.nMax bb_max ?_
  wtm_at "go2"
  refine nm_C (na N (.tail _ (.tail _ h2))) e2 ?_
  wtm_at "go2"
  refine max_list_N am.hd F N (isL (na N (.tail _ (.tail _ hsl)))) (.cons _ _ (.cons _ _ .nil)) (by simp) ?_
  intro h₃ M2 v2 tk2 F N hm3 hm4
  have eM1 : M1 = ((min s0 s1 : Nat) : Int) := by
    have x1 := hm2 _ (.head _)
    have x2 := hm2 _ (.tail _ (.head _))
    simp only [List.mem_cons, List.not_mem_nil, or_false] at hm1
    rcases Nat.le_total s0 s1 with z | z
    · rw [Nat.min_eq_left z]; exact hm1.elim id fun e => Int.le_antisymm x1 (by rw [e]; exact Int.ofNat_le.mpr z)
    · rw [Nat.min_eq_right z]; exact hm1.elim (fun e => Int.le_antisymm x2 (by rw [e]; exact Int.ofNat_le.mpr z)) id
  have eM2 : M2 = ((max s0 s1 : Nat) : Int) := by
    have x1 := hm4 _ (.head _)
    have x2 := hm4 _ (.tail _ (.head _))
    simp only [List.mem_cons, List.not_mem_nil, or_false] at hm3
    rcases Nat.le_total s0 s1 with z | z
    · rw [Nat.max_eq_right z]; exact hm3.elim (fun e => Int.le_antisymm (by rw [e]; exact Int.ofNat_le.mpr z) x2) id
    · rw [Nat.max_eq_left z]; exact hm3.elim id fun e => Int.le_antisymm (by rw [e]; exact Int.ofNat_le.mpr z) x1
  subst eM1 eM2
  obtain ⟨mi, hmi⟩ : ∃ x, min s0 s1 = x := ⟨_, rfl⟩
  obtain ⟨ma, hma⟩ : ∃ x, max s0 s1 = x := ⟨_, rfl⟩
  rw [hmi, hma] at q ⊢
  have b0 : 1 ≤ mi := by rw [← hmi]; exact Nat.le_min.mpr ⟨by assumption, by assumption⟩
  have b1 : mi ≤ ma := by rw [← hmi, ← hma]; exact Nat.le_trans (Nat.min_le_left _ _) (Nat.le_max_left _ _)
  have b2 : ma ≤ 9 := by rw [← hma]; exact Nat.max_le.mpr ⟨by assumption, by assumption⟩
  wtm_at "go2"
  with_reducible refine r_newTuple F N ?_
  intro tp h₄ F N l4 _
  refine r_asTup am.hd F N (n0 N) ?_
  intro h₅ F N k5
  refine x_ord ?_
  have ctp : ∀ c o, (c, o) ∈ (cM L, o4) :: (cN L, o5) :: W → tp ≠ c := fun c o hp => Nat.ne_of_gt (l4 (c, o) hp)
  have N := News.sub (l' := (cM L, o4) :: (tp, tupO [Value.int (mi : Int) v1, .int (ma : Int) v2]) :: (cN L, o5) :: W) N (pm_cons (by wtm_at "mm") (pm_cons (by wtm_at "mm") (pm_tail (pm_tail pm_id))))
  refine r_stC F N (ne_cons (ctp _ _ (.head _)) (ne_cons hcc fun p hp => (hW p hp).1)) e4 ?_
  intro h₆ o4' F N d4
  refine x_ord ?_
  have N := News.sub (l' := (cN L, o5) :: (cM L, o4') :: (tp, tupO [Value.int (mi : Int) v1, .int (ma : Int) v2]) :: W) N (pm_cons (by wtm_at "mm") (pm_cons (by wtm_at "mm") (pm_cons (by wtm_at "mm") (pm_tail (pm_tail (pm_tail pm_id))))))
  refine r_stC F N (ne_cons (Ne.symm hcc) (ne_cons (ctp _ _ (.tail _ (.head _))) fun p hp => (hW p hp).2)) e5 ?_
  intro h₇ o5' F N d5
  refine x_ord0 ?_
  wtm_at "go2"
  with_reducible refine nm_B F G LN.nMax bb_max ?_
  wtm_at "go2"
  with_reducible refine x_LC ?_
  wtm_at "go2"
  with_reducible refine nm_B F G LN.nRange bb_range ?_
  wtm_at "go2"
  with_reducible refine r_range1 F N ?_
  intro r h₈ ta tb tc F N lr tk
  refine r_iterRange 4 F N (N.get (.head _)) (by decide) (by decide) (by decide) ?_
  intro it h₉ F N lit
  refine r_compForP (Iter.range 0 4) am.hd F N (lt_ne lit) rfl (fun i ys => IntsAre ys ((tks mi ma i).map fun k => ((k : Nat) : Int))) .nil ?_ ?_
  · intro g' acc D sg kN nsL hsz
    refine ⟨fun zz zz => trivial, ?_⟩
    rintro i m ys c h t o v hi hS F N hai - ⟨ti, rfl⟩
    refine wpAny_pure ?_
    wtm_at "go2"
    wtm_at "sts"
    intro hA F N
    wtm_at "go2"
    refine nm_C (F.keep _ _ (kN (cM L, o4') (by wtm_at "mm"))) d4 ?_
    wtm_at "go2"
    with_reducible refine r_pow ?_ ?_ ?_
    · lia
    · have : Builtin.Int.intBits 2 = 2 := by decide +kernel
      rw [this]; lia
    have e0 : (0 + (i : Int)).toNat = i := zt0
    rw [e0]
    wtm_at "go2"
    have hpi : (2 : Int) ^ i ≤ 8 := (pow2_at (by lia)).2
    with_reducible refine r_mul (mul_l ?_ ?_) ?_
    · lia
    · lia
    wtm_at "go2"
    refine nm_C (F.keep _ _ (kN (cN L, o5') (by wtm_at "mm"))) d5 ?_
    refine PyProof.Rows.le_int ?_
    wtm_at "go2"
    have ed : decide ((mi : Int) * 2 ^ i ≤ (ma : Int)) = decide (mi * 2 ^ i ≤ ma) := by
      have e1 : ((mi * 2 ^ i : Nat) : Int) = (mi : Int) * 2 ^ i := by rw [Int.natCast_mul, Int.natCast_pow]; rfl
      rw [← e1]
      exact decide_eq_decide.mpr Int.ofNat_le
    have etk : tks mi ma (i + 1) = tks mi ma i ++ (if decide (mi * 2 ^ i ≤ ma) = true then [i] else []) := by
      unfold tks
      rw [List.range_succ, List.filter_append, List.filter_cons, List.filter_nil]
    have hyl := IntsAre.length hS
    have htl : (tks mi ma i).length ≤ i := by unfold tks; exact Nat.le_trans (List.length_filter_le _ _) (by simp)
    rw [List.length_map] at hyl
    rw [ed]
    by_cases hc : decide (mi * 2 ^ i ≤ ma) = true
    · rw [if_pos hc]
      refine r_emit rfl ?_
      wtm_at "go2"
      refine papp F N hai (by rw [sizeLine_eq]; lia) ?_
      rw [etk, if_pos hc, List.map_append]
      have ei : (0 + (i : Int)) = (i : Int) := Int.zero_add _
      rw [ei]
      exact IntsAre.snoc' hS _ _
    · rw [if_neg hc]
      refine pnext F N hai ?_
      rw [etk, if_neg hc, List.append_nil]
      exact hS
  · intro acc ys c h'' t'' hS F N hne hac
    wtm_at "go2"
    have h0m : 0 ∈ tks mi ma 4 := by
      unfold tks
      rw [List.mem_filter]
      exact ⟨by decide, by simpa using b1⟩
    refine max_list_N am.hd F N (isL (n0 N)) hS (by rw [List.length_map]; exact List.length_pos_of_mem h0m) ?_
    intro hC M vM tkM F N hM1 hM2
    obtain ⟨T, hT, rfl⟩ := List.mem_map.mp hM1
    have hT2 := List.mem_filter.mp hT
    have eT := t_eq (T := T) b0 b1 b2 (of_decide_eq_true hT2.2) (fun k hk hk2 => by
      have := hM2 _ (List.mem_map.mpr ⟨k, List.mem_filter.mpr ⟨List.mem_range.mpr hk, decide_eq_true hk2⟩, rfl⟩)
      lia)
    subst eT
    wtm_at "sts"
    intro hD F N
    show wpAny _ _ (execs (b_law.drop 26) (lEnv L)) _ _ _
    refine q o4' o5' v1 v2 vM hD _ _ d4 d5 F (fun x hx => if_neg hx) (by with_unfolding_all rfl) (News.sub N ?_)
    have z : ∀ p ∈ (cM L, o4') :: (cN L, o5') :: W, p ∈ (cN L, o5') :: (cM L, o4') :: (tp, tupO [Value.int (mi : Int) v1, .int (ma : Int) v2]) :: W := pm_cons (by wtm_at "mm") (pm_cons (by wtm_at "mm") (pm_tail (pm_tail (pm_tail pm_id))))
    exact fun p hp => .tail _ (.tail _ (z p hp))
end
end Mine
end
-- L18
section
open PySem.Spec
namespace Mine
theorem first_nodup {ns : List Int} (h : ns.Nodup) : ∀ i, i ≤ ns.length → firstMet (fun i => ns.getD i 0) i = ns.take i
  | 0, _ => rfl
  | i + 1, hi => by
    have hlt : i < ns.length := by lia
    have e : ns.take (i + 1) = ns.take i ++ [ns.getD i 0] := by
      rw [List.take_add_one, List.getElem?_eq_getElem hlt, List.getD_eq_getElem?_getD, List.getElem?_eq_getElem hlt]; rfl
    have hn : (ns.take (i + 1)).Nodup := List.Nodup.sublist (List.take_sublist _ _) h
    rw [e, List.nodup_append] at hn
    rw [firstMet_succ, first_nodup h i (by lia), e]
    unfold step_dedup
    rw [if_neg]
    intro ha
    obtain ⟨x, hx, he⟩ := List.any_eq_true.mp ha
    exact hn.2.2 x hx _ (.head _) (by simpa using he)
theorem log_nodup {looks : List Tag} {s0 s1 : Nat} (a0 : s0 ≤ 9) (a1 : s1 ≤ 9) (a2 : 1 ≤ s1) (hn : looks.Nodup) (hb : ∀ x ∈ looks, x.1 < s0 ∧ x.2 < s1) : ((89 + (s1 : Int)) :: looks.map ent).Nodup := by
  rw [List.nodup_cons]
  refine ⟨fun hm => ?_, ?_⟩
  · obtain ⟨x, hx, he⟩ := List.mem_map.mp hm
    have := hb x hx
    unfold ent at he
    lia
  · unfold List.Nodup at *
    rw [List.pairwise_map]
    refine List.Pairwise.imp_of_mem (fun {a b} ha hb' hab e => hab ?_) hn
    have h1 := hb a ha
    have h2 := hb b hb'
    unfold ent at e
    have e1 : a.1 = b.1 := by lia
    have e2 : a.2 = b.2 := by lia
    exact Prod.ext e1 e2
section
variable {w : World} {A : Around} {E : Value → Shared → Prop} {K : Frag} {mg mb : Str → Option Value} {h g : Heap} {gs : Array GenState} {d : Drawn} {t : Nat} {os : OsState} {L : Addr} {m : Str → Option Value}
set_option maxHeartbeats 2000000 in
theorem law26 (LN : LawN K) (G : Gd K mg mb g) (am : Amb A 29) {W : List (Addr × Obj)} {o4 o5 oL : Obj} {lg : Addr} {c s0 s1 : Nat} {vs : List Value} {looks : List Tag} {v1 v2 ut : Tok} (F : Fr g L h m) (N : News g L h W)
    (h4 : (cM L, o4) ∈ W) (e4 : o4.data = .cell (some (.int ((min s0 s1 : Nat) : Int) v1))) (h5 : (cN L, o5) ∈ W) (e5 : o5.data = .cell (some (.int ((max s0 s1 : Nat) : Int) v2))) (hL : (cL L, oL) ∈ W) (eL : oL.data = .cell (some (.ref lg))) (hlg : (lg, listOf vs.toArray c) ∈ W)
    (m1 : m "t" = some (.int ((Nat.log2 (max s0 s1 / min s0 s1) : Nat) : Int) ut)) (hI : IntsAre vs ((89 + (s1 : Int)) :: looks.map ent)) (a0 : 1 ≤ s0) (a1 : s0 ≤ 9) (a2 : 1 ≤ s1) (a3 : s1 ≤ 9) (hn : looks.Nodup) (hb : ∀ x ∈ looks, x.1 < s0 ∧ x.2 < s1) (hl : looks.length ≤ bnd s0 s1) {Q : Flow → Shared → Prop}
    (q : ∀ h' t', Fr g L h' m → News g L h' W → wpAny (model PW w) A (execs (b_law.drop 27) (lEnv L)) Q E ⟨h', gs, d, t', os⟩) :
    wpAny (model PW w) A (execs (b_law.drop 26) (lEnv L)) Q E ⟨h, gs, d, t, os⟩ := by
  have hvl := IntsAre.length hI
  rw [List.length_cons, List.length_map] at hvl
  have hb100 : looks.length ≤ 100 := Nat.le_trans hl (bnd_le a1 a3)
  have hN := log_nodup a1 a3 a2 hn hb
  unfold bnd at hl
  obtain ⟨mi, hmi⟩ : ∃ x, min s0 s1 = x := ⟨_, rfl⟩
  obtain ⟨ma, hma⟩ : ∃ x, max s0 s1 = x := ⟨_, rfl⟩
  rw [hmi] at e4 m1 hl
  rw [hma] at e5 m1 hl
  have b0 : 1 ≤ mi := by rw [← hmi]; exact Nat.le_min.mpr ⟨by assumption, by assumption⟩
  have b1 : mi ≤ ma := by rw [← hmi, ← hma]; exact Nat.le_trans (Nat.min_le_left _ _) (Nat.le_max_left _ _)
  have b2 : ma ≤ 9 := by rw [← hma]; exact Nat.max_le.mpr ⟨by assumption, by assumption⟩
  rw [if_neg (by lia)] at hl
  obtain ⟨T, hT⟩ : ∃ x, Nat.log2 (ma / mi) = x := ⟨_, rfl⟩
  have hT4 : T < 4 := by
    rw [← hT]
    have h0 : ma / mi ≠ 0 := by have := (Nat.one_le_div_iff (show 0 < mi by lia)).mpr b1; lia
    have h9 : ma / mi ≤ 9 := Nat.le_trans (Nat.div_le_self ma mi) b2
    exact (Nat.log2_lt h0).mpr (by lia)
  rw [hT] at m1 hl
  refine wpAny_execs_cons ?_
  wtm_at "go2"
  with_reducible refine nm_B F G LN.nLen bb_len ?_
  wtm_at "go2"
  refine nm_C (na N hL) eL ?_
  wtm_at "go2"
  refine PyProof.Rows.len_list (isL (na N hlg)) (by rw [List.size_toArray]; lia) ?_
  wtm_at "go2"
  refine nm_C (na N h4) e4 ?_
  wtm_at "go2"
  with_reducible refine r_mul (mul_l ?_ ?_) ?_
  · lia
  · lia
  wtm_at "go2"
  refine nm_C (na N h5) e5 ?_
  wtm_at "go2"
  with_reducible refine r_pow ?_ ?_ ?_
  · lia
  · have : Builtin.Int.intBits 2 = 2 := by decide +kernel
    rw [this]; lia
  rw [Int.toNat_natCast]
  have hp1 : (1 : Int) ≤ 2 ^ T ∧ (2 : Int) ^ T ≤ 8 := pow2_at (by lia)
  wtm_at "go2"
  with_reducible refine r_div ?_ ?_ ?_
  · lia
  · lia
  wtm_at "go2"
  have ediv : (ma : Int) / 2 ^ T = ((ma / 2 ^ T : Nat) : Int) := by
    rw [Int.natCast_ediv, Int.natCast_pow]; rfl
  have emul : (mi : Int) * ((T : Int) + 1) = ((mi * (T + 1) : Nat) : Int) := by
    rw [Int.natCast_mul]; rfl
  have hpos : 1 ≤ mi * (T + 1) := Nat.mul_pos b0 (Nat.succ_pos T)
  rw [ediv, emul]
  generalize mi * (T + 1) = X at hl hpos ⊢
  generalize ma / 2 ^ T = Y at hl ⊢
  have hc : ¬ (((vs.toArray.size : Nat) : Int) - 1 > ((X : Nat) : Int) + ((Y : Nat) : Int) - 1) := by
    rw [List.size_toArray]; lia
  rw [if_neg (by simpa using hc)]
  wtm_at "go2"
  with_reducible refine nm_B F G LN.nLen bb_len ?_
  wtm_at "go2"
  with_reducible refine nm_B F G LN.nSet bb_set ?_
  wtm_at "go2"
  refine nm_C (na N hL) eL ?_
  wtm_at "go2"
  have elg := na N hlg
  refine PySem.call_set_list (items := vs.toArray) (ns := (89 + (s1 : Int)) :: looks.map ent) am.hd (isL elg) (by simpa using hI) (by rw [List.size_toArray]; unfold scanBound; lia) ?_
  intro h₂ tk2 hS hk
  dsimp only at hS hk ⊢
  have hlen2 : vs.toArray.size = ((89 + (s1 : Int)) :: looks.map ent).length := by rw [List.size_toArray, List.length_cons, List.length_map]; exact hvl
  rw [hlen2, first_nodup hN _ (Nat.le_refl _), List.take_length] at hS
  obtain ⟨so, hso, hst⟩ := hS.objOf
  have sk : Sub h h₂ := fun b o e => hk b o (Heap.lt_size e) e
  have F2 := Fr.sub F sk
  have N2 := News.cons (News.keep N sk) hso (Nat.ne_of_gt (Fr.lt F)) (none_of_size (Fr.szle F))
  clear N F
  have F := F2
  have N := N2
  wtm_at "go2"
  refine len_sl1 (s := ⟨h₂, gs, d, _, os⟩) (own := []) N hst ?_ ?_
  · rw [List.length_cons, List.length_map]; lia
  wtm_at "go2"
  with_reducible refine nm_B F G LN.nLen bb_len ?_
  wtm_at "go2"
  refine nm_C (na N (.tail _ hL)) eL ?_
  wtm_at "go2"
  refine PyProof.Rows.len_list (isL (na N (.tail _ hlg))) (by rw [List.size_toArray]; lia) ?_
  wtm_at "go2"
  rw [if_neg (by rw [hlen2]; simp)]
  wtm_at "go2"
  refine isTrue_or_nil ?_
  rw [if_neg (by decide)]
  refine wpAny_execs_nil ?_
  show wpAny _ _ (execs (b_law.drop 27) (lEnv L)) _ _ _
  exact q h₂ _ F (News.sub N (pm_tail pm_id))
end
end Mine
end
-- L19
section
namespace Mine
noncomputable def lcRet : Option Stmt → Option (PySem.Expr × Scope)
  | some (.Return (some (.Compare (.ListComp e _ sc _) _ _ _)) _) => some (e, sc)
  | _ => none
noncomputable def ret27 : PySem.Expr × Scope := pick (lcRet (b_law[27]?)) _ (by with_unfolding_all rfl)
noncomputable abbrev rEnv27 (D L : Addr) : Env := compEnvC ret27.2 [] D (lEnv L)
noncomputable def bareD (head : Nat) : PyData := .tuple [.int 0, .tuple [.str "", .str ""], .int (head : Nat)]
theorem empty_ok : PyData.strOk "" = true := by decide +kernel
section
variable {w : World} {A : Around} {E : Value → Shared → Prop} {K : Frag} {mg mb : Str → Option Value} {h g : Heap} {gs : Array GenState} {d : Drawn} {t : Nat} {os : OsState} {D L : Addr} {m : Str → Option Value}
set_option maxHeartbeats 2000000 in
theorem pile27 (LN : LawN K) (LF : LawF K) (SP : SpcK K) (G : Gd K mg mb g) (am : Amb A 29) (C126 : CodeHd g 130 126) (B126 : g.BuiltinsAt mg 126) {p x : Addr} {n head : Nat} {od o126 : Obj} {u : Tok} {W : List (Addr × Obj)} (F : Fr g D h m) (N : News g D h ((126, o126) :: (p, accO x ([] : List Value).toArray n) :: W)) (hn : (126 : Addr) ≠ p) (hW : ∀ q ∈ W, q.1 ≠ 126 ∧ q.1 ≠ p)
    (T : TabO o126) (hx : g.get? x = some od) (hi : IniD od (.int (head : Nat) u)) (hh : head < 4) (m1 : m "pile" = some (.ref p)) {Q : Value → Shared → Prop}
    (q : ∀ T' o126' n' own h' gs' t', TabO o126' → (AllBare gs → AllBare gs') → (∀ q ∈ own, q.1 ≠ 126 ∧ q.1 ≠ p ∧ ∀ q' ∈ W, q'.1 ≠ q.1) → (∀ h'' : Heap, (∀ q ∈ own, h''.get? q.1 = some q.2) → Rd h'' 3 (.ref T') (bareD head)) → Fr g D h' m → News g D h' ((126, o126') :: (p, accO x ([] : List Value).toArray n') :: (own ++ W)) → Q (.ref T') ⟨h', gs', d, t', os⟩) :
    wpAny (model PW w) A (eval ret27.1 (rEnv27 D L)) Q E ⟨h, gs, d, t, os⟩ := by
  have MK := LF.tkn.meth
  show wpAny _ _ (eval (.Tuple _ _ _) _) _ _ _
  wtm_at "go2"
  have hx0 := F.keep _ _ hx
  have I0 : Acc h p x ([] : List Value).toArray n od := ⟨na N (by wtm_at "mm"), hx0⟩
  refine m_count (name := "part_count") (G.X.keeps F.keep) MK I0 hi ?_
  wtm_at "go2"
  refine ⟨Kp.fnK MK.count (G.X.keeps F.keep), ?_⟩
  refine count_spec MK.count MK.scount MK.cls MK.sup (G.keeps F.keep) (am.mono (by decide)) I0 ?_
  intro h₂ t₂ w2 k2
  have F2 := Fr.sub F k2
  have N2 := News.keep N k2
  clear N F
  have F := F2
  have N := N2
  wtm_at "go2"
  have I2 : Acc h₂ p x ([] : List Value).toArray n od := ⟨na N (by wtm_at "mm"), F.keep _ _ hx⟩
  refine r_meth (G.X.keeps F.keep) MK.cls I2 MK.f_pop.1 (.inl MK.f_pop.2) (hi.miss (by decide +kernel)) ?_
  wtm_at "go2"
  refine ⟨Kp.fnK MK.pop (G.X.keeps F.keep), ?_⟩
  have gp := (N (p, accO x ([] : List Value).toArray n) (by wtm_at "mm")).2
  refine pop_spec MK (G.keeps (subHideR F.keep gp.2)) (am.mono (by decide)) I2 hi (by rw [sizeLine_eq]; decide) ?_
  intro h₃ t₃ r n' k3 ep3 hr
  obtain ⟨-, a, u1, u2, rfl, ea, za⟩ : ([] : List Value) = [] ∧ ∃ a u1 u2, r = .ref a ∧ h₃.get? a = some (tupO [.str "" u1, .str "" u2]) ∧ h₂.objs.size ≤ a := by
    rcases hr with hr | hr
    · exact hr
    · cases hr
  have aD : a ≠ D ∧ g.get? a = none := ⟨Nat.ne_of_gt (Nat.lt_of_lt_of_le (Fr.lt F) za), none_of_size (Nat.le_trans (Fr.szle F) za)⟩
  have a126 : a ≠ 126 := Nat.ne_of_gt (Nat.lt_of_lt_of_le (Heap.lt_size (na N (.head _))) za)
  have aW : ∀ q' ∈ W, q'.1 ≠ a := fun q' hq => Nat.ne_of_lt (Nat.lt_of_lt_of_le (Heap.lt_size (na N (.tail _ (.tail _ hq)))) za)
  have ap : a ≠ p := Nat.ne_of_gt (Nat.lt_of_lt_of_le (Heap.lt_size (na N (.tail _ (.head _)))) za)
  have F3 := Fr.ext F gp.1 gp.2 (of_hide' k3)
  have N3 := News.cons (News.cons (News.ext (News.sub (l' := (126, o126) :: W) N (pm_cons (by wtm_at "mm") (pm_tail (pm_tail pm_id)))) (ne_cons hn fun q hq => (hW q hq).2) (of_hide' k3)) ep3 gp.1 gp.2) ea aD.1 aD.2
  clear N F
  have F := F3
  have N := N3
  wtm_at "go2"
  with_reducible refine nm_B F G LN.nLen bb_len ?_
  wtm_at "go2"
  have I3 : Acc h₃ p x ([] : List Value).toArray n' od := ⟨na N (by wtm_at "mm"), F.keep _ _ hx⟩
  have g126 := (N (126, o126) (by wtm_at "mm")).2
  have sg2 : Sub g (h₃.hide 126) := subHideR F.keep g126.2
  refine len_K F G.X I3.inst SP.len SP.lenF ?_
  refine len_spec (ps := []) MK LF.len (G.keeps sg2) (C126.keeps sg2) (B126.keeps sg2) (T.tabl (na N (by wtm_at "mm"))) (am.in1.mono (by decide)) I3 hi .nil (by lia) (by lia) (fun zz hp => nomatch hp) ?_
  intro h₄ gs₄ t₄ u3 hb4 k4 T4
  obtain ⟨o126', e126, T126'⟩ := T4.obj
  have et : total [] = 0 := rfl
  rw [et]
  refine ⟨⟨by lia, by lia⟩, ?_⟩
  have F4 := Fr.ext F g126.1 g126.2 (of_hide' k4)
  have N4 := News.cons (News.ext (News.sub (l' := (a, tupO [Value.str "" u1, .str "" u2]) :: (p, accO x ([] : List Value).toArray n') :: W) N (pm_cons (by wtm_at "mm") (pm_cons (by wtm_at "mm") (pm_tail (pm_tail (pm_tail pm_id)))))) (ne_cons a126 (ne_cons (Ne.symm hn) fun q hq => (hW q hq).1)) (of_hide' k4)) e126 g126.1 g126.2
  clear N F
  have F := F4
  have N := N4
  dsimp only
  wtm_at "go2"
  with_reducible refine r_newTupleG F N ?_
  intro us T' h₅ hus F N l5 _
  refine q T' o126' n' [(T', tupO us), (a, tupO [.str "" u1, .str "" u2])] h₅ gs₄ _ T126' hb4 ?_ ?_ F (News.sub N ?_)
  · intro q hq
    rcases List.mem_cons.mp hq with rfl | hq
    · exact ⟨Nat.ne_of_gt (l5 (126, _) (by wtm_at "mm")), Nat.ne_of_gt (l5 (p, _) (by wtm_at "mm")), fun q' hq' => Nat.ne_of_lt (l5 q' (.tail _ (.tail _ (.tail _ hq'))))⟩
    · rw [List.mem_singleton.mp hq]
      exact ⟨a126, ap, aW⟩
  · intro h'' ko
    have e1 := ko _ (.head _)
    have e2 := ko _ (.tail _ (.head _))
    rw [hus] at e1
    refine Rd.tuple e1 (Rds.cons ((Rd.int _ _).mono (by decide)) (Rds.cons (Rd.tuple (k := 1) e2 (Rds.cons (.str _ empty_ok) (Rds.cons (.str _ empty_ok) .nil))) (Rds.cons ?_ .nil)))
    have e3 : ((head : Nat) : Int) + 0 = ((head : Nat) : Int) := by lia
    rw [e3]
    exact (Rd.int _ _).mono (by decide)
  · exact pm_cons (by wtm_at "mm") (pm_cons (by wtm_at "mm") (pm_cons (by wtm_at "mm") (pm_cons (by wtm_at "mm") (pm_tail (pm_tail (pm_tail (pm_tail pm_id)))))))
end
end Mine
end
-- L20
section
namespace Mine
section
variable {w : World} {A : Around} {E : Value → Shared → Prop} {K : Frag} {mg mb : Str → Option Value} {h g : Heap} {gs : Array GenState} {d : Drawn} {t : Nat} {os : OsState} {L : Addr} {m : Str → Option Value}
inductive BareJ (gs : Array GenState) (p0 x0 p1 x1 : Addr) (head : Nat) (i : Nat) (m : Str → Option Value) (ys : List Value) : List (Addr × Obj) → Array GenState → Prop
  | mk (gs' : Array GenState) (hgs : AllBare gs → AllBare gs') (o126' : Obj) (n0' n1' : Nat) (own : List (Addr × Obj)) (T : TabO o126') (hown : ∀ q ∈ own, q.1 ≠ 126 ∧ q.1 ≠ p0 ∧ q.1 ≠ p1) (hyl : ys.length = i)
    (hR : ∀ h'' : Heap, (∀ q ∈ own, h''.get? q.1 = some q.2) → Rds h'' 3 ys (List.replicate i (bareD head))) : BareJ gs p0 x0 p1 x1 head i m ys ((126, o126') :: (p0, accO x0 ([] : List Value).toArray n0') :: (p1, accO x1 ([] : List Value).toArray n1') :: own) gs'
set_option maxHeartbeats 2000000 in
theorem law27 (LN : LawN K) (LF : LawF K) (SP : SpcK K) (G : Gd K mg mb g) (am : Amb A 30) (C126 : CodeHd g 130 126) (B126 : g.BuiltinsAt mg 126) {pl p0 p1 x0 x1 : Addr} {n0 n1 cp head : Nat} {od0 od1 o126 oH : Obj} {v0 v1 uh : Tok} {W : List (Addr × Obj)} (F : Fr g L h m) (N : News g L h ((126, o126) :: (p0, accO x0 ([] : List Value).toArray n0) :: (p1, accO x1 ([] : List Value).toArray n1) :: W))
    (hn : (126 : Addr) ≠ p0 ∧ (126 : Addr) ≠ p1 ∧ p0 ≠ p1) (hW : ∀ q ∈ W, q.1 ≠ 126 ∧ q.1 ≠ p0 ∧ q.1 ≠ p1) (T : TabO o126) (h0 : (x0, od0) ∈ W) (i0 : IniD od0 (.int (head : Nat) v0)) (h1 : (x1, od1) ∈ W) (i1 : IniD od1 (.int (head : Nat) v1)) (hh : head < 4)
    (hpl : (pl, listOf [Value.ref p0, .ref p1].toArray cp) ∈ W) (hH : (cH L, oH) ∈ W) (eH : oH.data = .cell (some (.int (head : Nat) uh))) (m1 : m "piles" = some (.ref pl)) {Q : Flow → Shared → Prop}
    (q : ∀ o126' h' gs' t', TabO o126' → (AllBare gs → AllBare gs') → Fr g L h' m → News g L h' ((126, o126') :: W) → Q (.ret (.bool true)) ⟨h', gs', d, t', os⟩) :
    wpAny (model PW w) A (execs (b_law.drop 27) (lEnv L)) Q E ⟨h, gs, d, t, os⟩ := by
  refine wpAny_execs_cons ?_
  wtm_at "go2"
  with_reducible refine x_LC ?_
  wtm_at "go2"
  have epl := na N (.tail _ (.tail _ (.tail _ hpl)))
  with_reducible refine r_iterList F N (isL epl) ?_
  intro it h₂ F N lit k2
  have litW : ∀ p ∈ W, p.1 < it := fun p hp => lit p (.tail _ (.tail _ (.tail _ hp)))
  show CompGoU PW w A (lEnv L) _ _ _ _ _ none _ _ _ _
  refine r_compForM (mu := [(126, o126), (p0, accO x0 ([] : List Value).toArray n0), (p1, accO x1 ([] : List Value).toArray n1)]) (news := W) (Iter.list pl [Value.ref p0, .ref p1].toArray) am.hd F N (lt_ne lit) ?_ ⟨rfl, rfl⟩
    (BareJ gs p0 x0 p1 x1 head)
    ⟨_, id, o126, n0, n1, [], T, (fun zz hp => nomatch hp), rfl, fun zz zz => Rds.nil⟩ ?_ ?_
  · intro p hp p' hp'
    obtain ⟨z1, z2, z3⟩ := hW p' hp'
    rcases List.mem_cons.mp hp with rfl | hp
    · exact Ne.symm z1
    rcases List.mem_cons.mp hp with rfl | hp
    · exact Ne.symm z2
    rw [List.mem_singleton.mp hp]
    exact Ne.symm z3
  · intro g' acc D sg kN nsL hsz
    refine ⟨fun i m ys nw gs h' zz k zz => isL (k _ _ (kN _ hpl)), ?_⟩
    intro i m ys c nw gs' h t o v hi zq11 hv _ F N hne hna
    obtain ⟨gs', hgs, o126', n0', n1', own, T', hown, hyl, hR⟩ := zq11
    have hv : [Value.ref p0, .ref p1][i]? = some v := by simpa using hv
    have hi2 : i < 2 := by simpa using hi
    refine wpAny_pure ?_
    wtm_at "go2"
    wtm_at "sts"
    intro h₅ F N
    refine tests_nil ?_
    rw [if_pos rfl]
    refine r_emit rfl ?_
    have ait : acc ≠ it := hne (acc, listOf ys.toArray c) (.head _)
    have fin : ∀ (T₂ : Addr) (o126'' : Obj) (m0 m1 : Nat) (own' : List (Addr × Obj)) (h₆ : Heap) (gs₆ : Array GenState) (t₆ : Nat) (mm : Str → Option Value), TabO o126'' → (AllBare gs' → AllBare gs₆) → (∀ q ∈ own', q.1 ≠ 126 ∧ q.1 ≠ p0 ∧ q.1 ≠ p1 ∧ q.1 ≠ it ∧ q.1 ≠ acc) → (∀ h'' : Heap, (∀ q ∈ own', h''.get? q.1 = some q.2) → Rd h'' 3 (.ref T₂) (bareD head)) → Fr g' D h₆ mm →
        News g' D h₆ ((acc, listOf ys.toArray c) :: (it, o) :: (126, o126'') :: (p0, accO x0 ([] : List Value).toArray m0) :: (p1, accO x1 ([] : List Value).toArray m1) :: (own' ++ own)) →
        wpAny (model PW w) A (call (.builtin "list.append") [.ref acc, .ref T₂]) (fun zz s₄ => CompNext g' D it acc d os o (BareJ gs p0 x0 p1 x1 head (i + 1)) s₄) (fun zz zz => False) ⟨h₆, gs₆, d, t₆, os⟩ := by
      intro T₂ o126'' m0 m1 own' h₆ gs₆ t₆ mm T'' hb6 ho' hrd F N
      have tl1 : ∀ q ∈ (126, o126'') :: (p0, accO x0 ([] : List Value).toArray m0) :: (p1, accO x1 ([] : List Value).toArray m1) :: (own' ++ own), q.1 ≠ acc := by
        refine ne_cons (p := (126, o126'')) (hna (126, o126') (.head _)) (ne_cons (p := (p0, _)) (hna (p0, accO x0 ([] : List Value).toArray n0') (.tail _ (.head _))) (ne_cons (p := (p1, _)) (hna (p1, accO x1 ([] : List Value).toArray n1') (.tail _ (.tail _ (.head _)))) fun q hq => ?_))
        rcases List.mem_append.mp hq with hq | hq
        · exact (ho' q hq).2.2.2.2
        · exact hna q (.tail _ (.tail _ (.tail _ hq)))
      have tl2 : ∀ q ∈ (126, o126'') :: (p0, accO x0 ([] : List Value).toArray m0) :: (p1, accO x1 ([] : List Value).toArray m1) :: (own' ++ own), q.1 ≠ it := by
        refine ne_cons (p := (126, o126'')) (hne (126, o126') (.tail _ (.head _))) (ne_cons (p := (p0, _)) (hne (p0, accO x0 ([] : List Value).toArray n0') (.tail _ (.tail _ (.head _)))) (ne_cons (p := (p1, _)) (hne (p1, accO x1 ([] : List Value).toArray n1') (.tail _ (.tail _ (.tail _ (.head _))))) fun q hq => ?_))
        rcases List.mem_append.mp hq with hq | hq
        · exact (ho' q hq).2.2.2.1
        · exact hne q (.tail _ (.tail _ (.tail _ (.tail _ hq))))
      with_reducible refine r_append F N ?_ ?_ ?_
      · exact ne_cons (Ne.symm ait) tl1
      · rw [List.size_toArray, hyl, sizeLine_eq]; lia
      intro h₇ F N hsz7
      rw [List.push_toArray] at N
      refine cnext F (News.swap N) (ne_cons (p := (acc, _)) ait tl2) tl1 ⟨_, fun z => hb6 (hgs z), o126'', m0, m1, own' ++ own, T'', ?_, by simp [hyl], ?_⟩
      · intro q hq
        rcases List.mem_append.mp hq with hq | hq
        · exact ⟨(ho' q hq).1, (ho' q hq).2.1, (ho' q hq).2.2.1⟩
        · exact hown q hq
      · intro h'' ko
        rw [List.replicate_succ']
        exact Rds.append (hR h'' fun q hq => ko q (List.mem_append_right _ hq)) (Rds.cons (hrd h'' fun q hq => ko q (List.mem_append_left _ hq)) .nil)
    rcases two_of hv with rfl | rfl
    · refine pile27 LN LF SP (G.keeps sg) (am.mono (by decide)) (C126.keeps sg) (B126.keeps sg) (p := p0) (x := x0) (n := n0') (o126 := o126') (W := (p1, accO x1 ([] : List Value).toArray n1') :: (it, o) :: (acc, listOf ys.toArray c) :: own) F (News.sub N ?_) hn.1 ?_ T' (kN _ h0) i0 hh (by with_unfolding_all rfl) ?_
      · exact pm_cons (by wtm_at "mm") (pm_cons (by wtm_at "mm") (pm_cons (by wtm_at "mm") (pm_cons (by wtm_at "mm") (pm_cons (by wtm_at "mm") (pm_tail (pm_tail (pm_tail (pm_tail (pm_tail pm_id)))))))))
      · intro q hq
        rcases List.mem_cons.mp hq with rfl | hq
        · exact ⟨Ne.symm hn.2.1, Ne.symm hn.2.2⟩
        rcases List.mem_cons.mp hq with rfl | hq
        · exact ⟨Ne.symm (hne (126, o126') (.tail _ (.head _))), Ne.symm (hne (p0, _) (.tail _ (.tail _ (.head _))))⟩
        rcases List.mem_cons.mp hq with rfl | hq
        · exact ⟨Ne.symm (hna (126, o126') (.head _)), Ne.symm (hna (p0, _) (.tail _ (.head _)))⟩
        · exact ⟨(hown q hq).1, (hown q hq).2.1⟩
      intro T₂ o126'' n'' own' h₆ gs₆ t₆ T'' hb6 ho' hrd F N
      refine fin T₂ o126'' n'' n1' own' h₆ gs₆ t₆ _ T'' hb6 ?_ hrd F (News.sub N ?_)
      · intro q hq
        obtain ⟨y1, y2, y3⟩ := ho' q hq
        exact ⟨y1, y2, Ne.symm (y3 (p1, _) (.head _)), Ne.symm (y3 (it, o) (.tail _ (.head _))), Ne.symm (y3 (acc, _) (.tail _ (.tail _ (.head _))))⟩
      · refine pm_cons ?_ (pm_cons ?_ (pm_cons (.head _) (pm_cons (.tail _ (.head _)) (pm_cons ?_ (pm_app ?_ ?_)))))
        · exact .tail _ (.tail _ (List.mem_append_right _ (.tail _ (.tail _ (.head _)))))
        · exact .tail _ (.tail _ (List.mem_append_right _ (.tail _ (.head _))))
        · exact .tail _ (.tail _ (List.mem_append_right _ (.head _)))
        · exact fun q hq => .tail _ (.tail _ (List.mem_append_left _ hq))
        · exact fun q hq => .tail _ (.tail _ (List.mem_append_right _ (.tail _ (.tail _ (.tail _ hq)))))
    · refine pile27 LN LF SP (G.keeps sg) (am.mono (by decide)) (C126.keeps sg) (B126.keeps sg) (p := p1) (x := x1) (n := n1') (o126 := o126') (W := (p0, accO x0 ([] : List Value).toArray n0') :: (it, o) :: (acc, listOf ys.toArray c) :: own) F (News.sub N ?_) hn.2.1 ?_ T' (kN _ h1) i1 hh (by with_unfolding_all rfl) ?_
      · exact pm_cons (by wtm_at "mm") (pm_cons (by wtm_at "mm") (pm_cons (by wtm_at "mm") (pm_cons (by wtm_at "mm") (pm_cons (by wtm_at "mm") (pm_tail (pm_tail (pm_tail (pm_tail (pm_tail pm_id)))))))))
      · intro q hq
        rcases List.mem_cons.mp hq with rfl | hq
        · exact ⟨Ne.symm hn.1, hn.2.2⟩
        rcases List.mem_cons.mp hq with rfl | hq
        · exact ⟨Ne.symm (hne (126, o126') (.tail _ (.head _))), Ne.symm (hne (p1, _) (.tail _ (.tail _ (.tail _ (.head _)))))⟩
        rcases List.mem_cons.mp hq with rfl | hq
        · exact ⟨Ne.symm (hna (126, o126') (.head _)), Ne.symm (hna (p1, _) (.tail _ (.tail _ (.head _))))⟩
        · exact ⟨(hown q hq).1, (hown q hq).2.2⟩
      intro T₂ o126'' n'' own' h₆ gs₆ t₆ T'' hb6 ho' hrd F N
      refine fin T₂ o126'' n0' n'' own' h₆ gs₆ t₆ _ T'' hb6 ?_ hrd F (News.sub N ?_)
      · intro q hq
        obtain ⟨y1, y2, y3⟩ := ho' q hq
        exact ⟨y1, Ne.symm (y3 (p0, _) (.head _)), y2, Ne.symm (y3 (it, o) (.tail _ (.head _))), Ne.symm (y3 (acc, _) (.tail _ (.tail _ (.head _))))⟩
      · refine pm_cons ?_ (pm_cons ?_ (pm_cons (.head _) (pm_cons ?_ (pm_cons (.tail _ (.head _)) (pm_app ?_ ?_)))))
        · exact .tail _ (.tail _ (List.mem_append_right _ (.tail _ (.tail _ (.head _)))))
        · exact .tail _ (.tail _ (List.mem_append_right _ (.tail _ (.head _))))
        · exact .tail _ (.tail _ (List.mem_append_right _ (.head _)))
        · exact fun q hq => .tail _ (.tail _ (List.mem_append_left _ hq))
        · exact fun q hq => .tail _ (.tail _ (List.mem_append_right _ (.tail _ (.tail _ (.tail _ hq)))))
  · intro acc ys c nw h'' gs' t'' m' zq8 F N hne hap hac
    obtain ⟨gs', hgs, o126', n0', n1', own, T', hown, hyl, hR⟩ := zq8
    wtm_at "go2"
    with_reducible refine r_newTuple F N ?_
    intro ta h₃ F N l3 _
    wtm_at "go2"
    have eh := na N (.tail _ (.tail _ (List.mem_append_right _ hH)))
    refine nm_C eh eH ?_
    wtm_at "go2"
    with_reducible refine r_newTuple F N ?_
    intro tb h₄ F N l4 _
    wtm_at "go2"
    with_reducible refine r_newList F N ?_
    intro la h₅ F N l5 _
    wtm_at "go2"
    refine KMa.mul F N (isL (na N (.head _))) (by decide) (by decide) (by simp) rfl ?_
    intro lb h₆ F N l6
    wtm_at "go2"
    have e2 : ([Value.ref p0, .ref p1].toArray.size : Nat) = 2 := rfl
    rw [e2] at hR
    have RA : Rds h₆ 3 ys (List.replicate 2 (bareD head)) := hR h₆ fun q hq => na N (.tail _ (.tail _ (.tail _ (.tail _ (.tail _ (List.mem_append_left _ (.tail _ (.tail _ (.tail _ hq)))))))))
    have ea := na N (.tail _ (.tail _ (.tail _ (.head _))))
    have eb := na N (.tail _ (.tail _ (.head _)))
    have r1 : Rd h₆ 3 (.ref tb) (bareD head) := Rd.tuple eb (Rds.cons ((Rd.int _ _).mono (by decide)) (Rds.cons (Rd.tuple (k := 1) ea (Rds.cons (.str _ empty_ok) (Rds.cons (.str _ empty_ok) .nil))) (Rds.cons ((Rd.int _ _).mono (by decide)) .nil)))
    have RB : Rds h₆ 3 [Value.ref tb, .ref tb] (List.replicate 2 (bareD head)) := Rds.cons r1 (Rds.cons r1 .nil)
    refine r_eqSame (Rd.list (na N (.tail _ (.tail _ (.tail _ (.tail _ (.head _)))))) RA) (Rd.list (na N (.head _)) RB) (by decide) (by have := am.un; lia) ?_
    exact q o126' h₆ _ _ T' hgs F (News.sub N (pm_cons (.tail _ (.tail _ (.tail _ (.tail _ (.tail _ (.head _)))))) fun p hp => .tail _ (.tail _ (.tail _ (.tail _ (.tail _ (List.mem_append_right _ hp)))))))
end
end Mine
end
-- L21
section
namespace Mine
noncomputable abbrev tb0 (P : Addr) : Addr × Obj := (P, tabObj #[])
section
variable {w : World} {A : Around} {E : Value → Shared → Prop} {K : Frag} {mg mb : Str → Option Value} {h g : Heap} {gs : Array GenState} {d : Drawn} {t : Nat} {os : OsState} {L : Addr} {m : Str → Option Value}
set_option maxHeartbeats 2000000 in
theorem lawA (LN : LawN K) (LF : LawF K) (G : Gd K mg mb g) (am : Amb A 29) (hfr : A.frames = some [lEnv L]) (C : CodeHd g 213 211) (B : g.BuiltinsAt mg 211) (h211 : 211 < L) {o1 o2 o3 o4 o5 o6 o7 : Obj} (F : Fr g L h m)
    (N : News g L h ([(cL L, o7), (cK L, o6), (cN L, o5), (cM L, o4), (cH L, o3), (L + 1 + 1, o2), (L + 1, o1), tb0 126, tb0 133, tb0 204, tb0 211]))
    (e1 : o1.data = .cell none) (e2 : o2.data = .cell none) (e3 : o3.data = .cell none) (e6 : o6.data = .cell none) (e7 : o7.data = .cell none)
    {ls : Addr} {c : Nat} {vs : List Value} {ns : List Int} (m1 : m "script" = some (.ref ls)) (hls : g.get? ls = some (listOf vs.toArray c)) (hI : IntsAre vs ns) (hz : ns.length ≤ 63) {Q : Flow → Shared → Prop}
    (q : ∀ (s0 s1 base head : Nat) (c1 c2 ht : Int) lg kl r0 r1 ml tell tl ps vs c ub h' t' m', Fr g L h' m' → m' "tell" = some (.ref tell) → m' "base" = some (.int (base : Nat) ub) → m' "marks" = some (.ref ml) →
      News g L h' ((211, tabObj ps) :: (lg, listOf (List.toArray vs) c) :: tb0 204 :: tb0 126 :: tb0 133 :: (cM L, o4) :: (cN L, o5) :: tl) → IntsAre vs [89 + (s1 : Int)] → 0 ≤ ht → ht ≤ 3 → LawT L s0 s1 base head (keysOf 0 c1 s0) (keysOf ht c2 s1) lg kl r0 r1 ml tell tl → TabT tl ps →
      (∀ p ∈ tl, p.1 ∈ [cL L, cK L, cH L, L + 1 + 1] ∨ cL L < p.1) → cL L < lg →
      wpAny (model PW w) A (execs (b_law.drop 16) (lEnv L)) Q E ⟨h', gs, d, t', os⟩) :
    wpAny (model PW w) A (execs b_law (lEnv L)) Q E ⟨h, gs, d, t, os⟩ := by
  have S : cL L < h.objs.size := Heap.lt_size (n0 N)
  have tw : ∀ P, P < L → ∀ a, L ≤ a → (tb0 P).1 ≠ a := fun P hP a ha => Nat.ne_of_lt (Nat.lt_of_lt_of_le hP ha)
  have t126 : 126 < L := Nat.lt_trans (by decide) h211
  have t133 : 133 < L := Nat.lt_trans (by decide) h211
  have t204 : 204 < L := Nat.lt_trans (by decide) h211
  -- the cells lie one behind the other
  have cel : ∀ j : Nat, L ≤ L + j := fun j => Nat.le_add_right L j
  have tbs : ∀ {a}, L ≤ a → ∀ p ∈ [tb0 126, tb0 133, tb0 204, tb0 211], p.1 ≠ a := by
    intro a ha
    exact ne_cons (tw 126 t126 a ha) (ne_cons (tw 133 t133 a ha) (ne_cons (tw 204 t204 a ha) (ne_cons (tw 211 h211 a ha) ne_nil)))
  have N0 : News g L h ((L + 1, o1) :: [(cL L, o7), (cK L, o6), (cH L, o3), (L + 1 + 1, o2), (cM L, o4), (cN L, o5), tb0 211, tb0 204, tb0 126, tb0 133]) := News.sub N (by wtm_at "prm")
  have ar : ∀ {i j : Nat}, i ≠ j → L + i ≠ L + j := fun hij e => hij (Nat.add_left_cancel e)
  refine law0 G am F N0 ?_ e1 m1 hls hI hz ?_
  · exact ne_cons (ar (i := 7) (j := 1) (by decide)) (ne_cons (ar (i := 6) (j := 1) (by decide)) (ne_cons (ar (i := 3) (j := 1) (by decide)) (ne_cons (ar (i := 2) (j := 1) (by decide)) (ne_cons (ar (i := 4) (j := 1) (by decide)) (ne_cons (ar (i := 5) (j := 1) (by decide))
      (ne_cons (tw 211 h211 _ (cel 1)) (ne_cons (tw 204 t204 _ (cel 1)) (ne_cons (tw 126 t126 _ (cel 1)) (ne_cons (tw 133 t133 _ (cel 1)) ne_nil)))))))))
  intro a o1' vs1 cc1 ns1 h1 t1 m1' d1 F1 hm1 N1 za hI1 hl1 hb1
  have za1 := Heap.lt_size (n1 N1)
  refine law1 LN G am F1 N1 d1 hI1 hl1 hb1 ?_
  intro cl vs2 cc2 ns2 h2 t2 m2' F2 mc2 N2 ncl zcl hI2 hl2 hb2
  have zcl0 : h.objs.size ≤ cl := Nat.le_trans za (Nat.le_trans (Nat.le_of_lt za1) zcl)
  have big : ∀ {a : Addr} {j : Nat}, h.objs.size ≤ a → j ≤ 7 → a ≠ L + j := fun ha hj => Nat.ne_of_gt (Nat.lt_of_lt_of_le (Nat.lt_of_le_of_lt (Nat.add_le_add_left hj L) S) ha)
  have N2 : News g L h2 ((L + 1 + 1, o2) :: (cl, listOf vs2.toArray cc2) :: [(cL L, o7), (cK L, o6), (cH L, o3), (cM L, o4), (cN L, o5), tb0 211, tb0 204, tb0 126, tb0 133]) := News.sub N2 (by wtm_at "prm")
  refine law2 LN LF G am F2 mc2 N2 ?_ e2 hI2 hl2 hb2 ?_
  · exact ne_cons (big (j := 2) zcl0 (by decide)) (ne_cons (ar (i := 7) (j := 2) (by decide)) (ne_cons (ar (i := 6) (j := 2) (by decide)) (ne_cons (ar (i := 3) (j := 2) (by decide)) (ne_cons (ar (i := 4) (j := 2) (by decide)) (ne_cons (ar (i := 5) (j := 2) (by decide))
      (ne_cons (tw 211 h211 _ (cel 2)) (ne_cons (tw 204 t204 _ (cel 2)) (ne_cons (tw 126 t126 _ (cel 2)) (ne_cons (tw 133 t133 _ (cel 2)) ne_nil)))))))))
  intro o2' sl s0 s1 u0 u1 c0 c1 c2 c3 v0 v1 v2 v3 bl k0 k1 vk0 vk1 cb ck0 ck1 h3 t3 m3' d2 F3 mc3 mb3 N3 z3 a0 a1 a2 a3 b0 b1 hK0 hK1
  have z2 := Heap.lt_size (n1 N2)
  have zle2 : ∀ {x}, h2.objs.size ≤ x → h.objs.size ≤ x := fun hx => Nat.le_trans zcl0 (Nat.le_trans (Nat.le_of_lt z2) hx)
  have zsl := zle2 (z3 sl (by simp))
  have zbl := zle2 (z3 bl (by simp))
  have h3s : h.objs.size ≤ h3.objs.size := Nat.le_trans zbl (Nat.le_of_lt (Heap.lt_size (n0 N3)))
  refine law4 (ht := c0 / 81 % 4) LN LF G am hfr F3 mb3 N3 a0 a1 a2 a3 (by lia) (by lia) hK0 hK1 ?_
  intro x rl vr cr h4 t4 m4' F4 hm4 mr4 N4 z4 hIr
  have zrl : h.objs.size ≤ rl := Nat.le_trans h3s z4
  have mc4 := (hm4 "cells" (by decide) (by decide)).trans mc3
  have N4 : News g L h4 ((cL L, o7) :: (cK L, o6) :: (cH L, o3) :: (rl, listOf vr.toArray cr) :: (sl, listOf [Value.int (s0 : Nat) u0, .int (s1 : Nat) u1].toArray 0) :: (L + 1 + 1, o2') :: (cl, listOf [Value.int c0 v0, .int c1 v1, .int c2 v2, .int c3 v3].toArray cc2) :: [tb0 211, tb0 204, tb0 126, tb0 133, (cM L, o4), (cN L, o5)]) := News.sub N4 (by wtm_at "prm")
  refine law7 (K0 := keysOf 0 c1 s0) (K1 := keysOf (c0 / 81 % 4) c2 s1) LN LF G am F4 mr4 mc4 N4 ?_ e7 e6 e3 d2 hIr (keysOf_len _ _ _) (keysOf_len _ _ _) a1 a3 b0 b1 ?_
  · intro c hc
    have hcj : ∃ j : Nat, c = L + j ∧ (j = 7 ∨ j = 6 ∨ j = 3) := by
      simp only [List.mem_cons, List.not_mem_nil, or_false] at hc
      rcases hc with rfl | rfl | rfl
      · exact ⟨7, rfl, by simp⟩
      · exact ⟨6, rfl, by simp⟩
      · exact ⟨3, rfl, by simp⟩
    obtain ⟨j, rfl, hj⟩ := hcj
    exact ne_cons (big zrl (by lia)) (ne_cons (big zsl (by lia)) (ne_cons (ar (i := 2) (by lia)) (ne_cons (big zcl0 (by lia)) (ne_cons (tw 211 h211 _ (cel j)) (ne_cons (tw 204 t204 _ (cel j)) (ne_cons (tw 126 t126 _ (cel j)) (ne_cons (tw 133 t133 _ (cel j))
      (ne_cons (ar (i := 4) (by lia)) (ne_cons (ar (i := 5) (by lia)) ne_nil)))))))))
  intro o7' o6' o3' lg ml kl r0 r1 vm cm vk0' ck0' vk1' ck1' base head ub uh h5 t5 m5' F5 mb5 mm5 N5 z5 d7 d6 d3 hb29 hh4 hM hV0 hV1 hlgne
  have h4s : h.objs.size ≤ h4.objs.size := Nat.le_trans zrl (Nat.le_of_lt (Heap.lt_size (na N4 (.tail _ (.tail _ (.tail _ (.head _)))))))
  have zz : ∀ a ∈ [lg, ml, kl, r0, r1], h.objs.size ≤ a := fun a ha => Nat.le_trans h4s (z5 a ha)
  have hLlt : ∀ {a}, h.objs.size ≤ a → L < a := fun ha => Nat.lt_of_lt_of_le (Nat.lt_of_le_of_lt (cel 7) S) ha
  have zlg := zz lg (by simp)
  have N5 : News g L h5 ((211, tabObj #[]) :: (lg, listOf ([] : List Value).toArray 0) :: (ml, listOf vm.toArray cm) :: (kl, listOf [Value.ref r0, .ref r1].toArray 0) :: (r0, listOf vk0'.toArray ck0') :: (r1, listOf vk1'.toArray ck1') :: (cL L, o7') :: (cK L, o6') :: (cH L, o3') :: (sl, listOf [Value.int (s0 : Nat) u0, .int (s1 : Nat) u1].toArray 0) :: (L + 1 + 1, o2') :: [tb0 204, tb0 126, tb0 133, (cM L, o4), (cN L, o5)]) := News.sub N5 (by wtm_at "prm")
  refine law11 (K0 := keysOf 0 c1 s0) (K1 := keysOf (c0 / 81 % 4) c2 s1) LN LF G am C B F5 N5 d7 d6 d3 d2 hb29 hh4 hM hV0 hV1 ?_ h211 (hLlt zlg) ?_ a0 a1 a2 a3 (keysOf_len _ _ _) (keysOf_len _ _ _) ?_
  · intro p hp
    refine ⟨?_, ?_⟩
    · refine hlgne p ?_
      refine (show ∀ q ∈ _, q ∈ _ from ?_) p hp
      exact pm_cons (by wtm_at "mm") (pm_cons (by wtm_at "mm") (pm_cons (by wtm_at "mm") (pm_cons (by wtm_at "mm") (pm_cons (by wtm_at "mm") (pm_cons (by wtm_at "mm") (pm_cons (by wtm_at "mm") (pm_cons (by wtm_at "mm") (pm_cons (by wtm_at "mm") pm_nil))))))))
    · simp only [List.mem_cons, List.not_mem_nil, or_false] at hp
      rcases hp with rfl | rfl | rfl | rfl | rfl | rfl | rfl | rfl | rfl
      · exact hLlt (zz ml (by simp))
      · exact hLlt (zz kl (by simp))
      · exact hLlt (zz r0 (by simp))
      · exact hLlt (zz r1 (by simp))
      · exact Nat.lt_add_of_pos_right (k := 7) (by decide)
      · exact Nat.lt_add_of_pos_right (k := 6) (by decide)
      · exact Nat.lt_add_of_pos_right (k := 3) (by decide)
      · exact hLlt zsl
      · exact Nat.lt_add_of_pos_right (k := 2) (by decide)
  · have bl : ∀ {j : Nat}, j ≤ 7 → L + j ≠ lg := fun hj => Ne.symm (big zlg hj)
    have lgL : L ≤ lg := Nat.le_of_lt (hLlt zlg)
    exact fa_cons (⟨tw 204 t204 _ lgL, by decide⟩) (fa_cons (⟨tw 126 t126 _ lgL, by decide⟩) (fa_cons (⟨tw 133 t133 _ lgL, by decide⟩) (fa_cons (⟨bl (j := 4) (by decide), Nat.ne_of_gt (Nat.lt_of_lt_of_le h211 (cel 4))⟩) (fa_cons (⟨bl (j := 5) (by decide), Nat.ne_of_gt (Nat.lt_of_lt_of_le h211 (cel 5))⟩) fa_nil))))
  intro tell ps tl vs6 c6 h6 t6 m6' F6 hm6 mt6 N6 hI6 lt hT hwh
  refine law13 LN LF G am F6 N6 ?_
  intro h7 t7 m7' F7 hm7 N7 z7
  have h5s : h.objs.size ≤ h5.objs.size := Nat.le_trans zlg (Nat.le_of_lt (Heap.lt_size (na N5 (.tail _ (.head _)))))
  have N7 : News g L h7 ((211, tabObj ps) :: ((lg, listOf vs6.toArray c6) :: tb0 204 :: tb0 126 :: tb0 133 :: (cM L, o4) :: (cN L, o5) :: tl)) := News.sub N7 (by
    refine pm_cons (by wtm_at "mm") (pm_cons (by wtm_at "mm") ?_)
    refine pm_cons ?_ (pm_cons ?_ (pm_cons ?_ (pm_cons ?_ (pm_cons ?_ fun p hp => .tail _ (.tail _ (List.mem_append_left _ hp))))))
    all_goals (refine .tail _ (.tail _ (List.mem_append_right _ ?_)); wtm_at "mm"))
  have hwh2 : ∀ p ∈ tl, p.1 ∈ [cL L, cK L, cH L, L + 1 + 1] ∨ cL L < p.1 := by
    intro p hp
    rcases hwh p hp with hp | hp
    · simp only [List.mem_cons, List.not_mem_nil, or_false] at hp
      rcases hp with rfl | rfl | rfl | rfl | rfl | rfl | rfl | rfl | rfl
      · exact .inr (Nat.lt_of_lt_of_le S (zz ml (by simp)))
      · exact .inr (Nat.lt_of_lt_of_le S (zz kl (by simp)))
      · exact .inr (Nat.lt_of_lt_of_le S (zz r0 (by simp)))
      · exact .inr (Nat.lt_of_lt_of_le S (zz r1 (by simp)))
      · exact .inl (by simp)
      · exact .inl (by simp)
      · exact .inl (by simp)
      · exact .inr (Nat.lt_of_lt_of_le S zsl)
      · exact .inl (by simp)
    · exact .inr (Nat.lt_of_lt_of_le S (Nat.le_trans h5s hp))
  have tlL : ∀ p ∈ tl, L < p.1 := by
    intro p hp
    rcases hwh2 p hp with hp | hp
    · simp only [List.mem_cons, List.not_mem_nil, or_false] at hp
      rcases hp with e | e | e | e <;> rw [e]
      · exact Nat.lt_add_of_pos_right (k := 7) (by decide)
      · exact Nat.lt_add_of_pos_right (k := 6) (by decide)
      · exact Nat.lt_add_of_pos_right (k := 3) (by decide)
      · exact Nat.lt_add_of_pos_right (k := 2) (by decide)
    · exact Nat.lt_of_le_of_lt (cel 7) hp
  have big211 : ∀ {a}, L < a → a ≠ 211 := fun ha => Nat.ne_of_gt (Nat.lt_trans h211 ha)
  refine law15 LN LF G am C B F7 N7 ?_ (fun p hp => .tail _ (.tail _ (.tail _ (.tail _ (.tail _ (.tail _ hp)))))) hT ?_
  · exact ne_cons (big211 (hLlt zlg)) (ne_cons (by decide) (ne_cons (by decide) (ne_cons (by decide) (ne_cons (Nat.ne_of_gt (Nat.lt_of_lt_of_le h211 (cel 4))) (ne_cons (Nat.ne_of_gt (Nat.lt_of_lt_of_le h211 (cel 5))) fun p hp => big211 (tlL p hp))))))
  intro ps8 own h8 t8 F8 N8 hown hT8
  have zlg7 : lg < h7.objs.size := Heap.lt_size (na N7 (.tail _ (.head _)))
  have lt8 := lt.mono (tl' := own ++ tl) (fun p hp => List.mem_append_right _ hp) (by
    intro p hp
    rcases List.mem_append.mp hp with hp | hp
    · exact Nat.ne_of_gt (Nat.lt_of_lt_of_le zlg7 (hown p hp))
    · exact lt.lne p hp)
  have mbase := (hm7 "base" (by decide)).trans ((hm6 "base" (by decide)).trans mb5)
  have mmarks := (hm7 "marks" (by decide)).trans ((hm6 "marks" (by decide)).trans mm5)
  have mtell := (hm7 "tell" (by decide)).trans mt6
  refine q s0 s1 base head c1 c2 (c0 / 81 % 4) lg kl r0 r1 ml tell (own ++ tl) ps8 vs6 c6 ub h8 t8 m7' F8 mtell mbase mmarks (News.sub N8 ?_) hI6 (by lia) (by lia) lt8 hT8 ?_ (Nat.lt_of_lt_of_le S zlg)
  · refine pm_cons (.head _) ?_
    refine pm_cons ?_ (pm_cons ?_ (pm_cons ?_ (pm_cons ?_ (pm_cons ?_ (pm_cons ?_ (pm_app ?_ ?_))))))
    case refine_7 => exact fun p hp => .tail _ (List.mem_append_left _ hp)
    case refine_8 => exact fun p hp => .tail _ (List.mem_append_right _ (.tail _ (.tail _ (.tail _ (.tail _ (.tail _ (.tail _ hp)))))))
    all_goals (refine .tail _ (List.mem_append_right _ ?_); wtm_at "mm")
  · intro p hp
    rcases List.mem_append.mp hp with hp | hp
    · exact .inr (Nat.lt_trans (Nat.lt_of_lt_of_le S zlg) (Nat.lt_of_lt_of_le zlg7 (hown p hp)))
    · exact hwh2 p hp
end
end Mine
end
-- L22
section
namespace Mine
noncomputable abbrev k0f (K : List Int) : Nat → Int := fun i => K.getD i 0
structure LawQ (L : Addr) (s0 s1 base head : Nat) (K0 K1 : List Int) (lg kl r0 r1 ml tell pl p0 p1 x0 x1 p2 x2 : Addr) (us0 us1 : List Value) (tl : List (Addr × Obj)) (ps : Array Value) : Prop where
  lt : LawT L s0 s1 base head K0 K1 lg kl r0 r1 ml tell tl
  lp : LawP head s0 s1 p0 p1 x0 x1 pl us0 us1 tl
  tab : TabT tl ps
  off : ∀ X ∈ [(211 : Addr), 126, 133, 204, cM L, cN L], (∀ p ∈ tl, p.1 ≠ X) ∧ p0 ≠ X ∧ p1 ≠ X ∧ p2 ≠ X ∧ x2 ≠ X ∧ lg ≠ X
  offp : ∀ p ∈ tl, p.1 ∉ MU p0 p1 lg p2 x2
  mu : (MU p0 p1 lg p2 x2).Nodup
section
variable {w : World} {A : Around} {E : Value → Shared → Prop} {K : Frag} {mg mb : Str → Option Value} {h g : Heap} {gs : Array GenState} {d : Drawn} {t : Nat} {os : OsState} {L : Addr} {m : Str → Option Value}
set_option maxHeartbeats 4000000 in
theorem lawB (LN : LawN K) (LF : LawF K) (G : Gd K mg mb g) (am : Amb A 29) (C : CodeHd g 208 204) (B : g.BuiltinsAt mg 204) (h211 : 211 < L) {o4 o5 : Obj} {s0 s1 base head : Nat} {c1 c2 ht : Int} {lg kl r0 r1 ml tell : Addr} {tl : List (Addr × Obj)} {ps : Array Value} {vs : List Value} {c : Nat} {ub : Tok}
    (F : Fr g L h m) (m1 : m "tell" = some (.ref tell)) (m2 : m "base" = some (.int (base : Nat) ub)) (m3 : m "marks" = some (.ref ml))
    (N : News g L h ((211, tabObj ps) :: (lg, listOf (List.toArray vs) c) :: tb0 204 :: tb0 126 :: tb0 133 :: (cM L, o4) :: (cN L, o5) :: tl)) (hI : IntsAre vs [89 + (s1 : Int)]) (lt : LawT L s0 s1 base head (keysOf 0 c1 s0) (keysOf ht c2 s1) lg kl r0 r1 ml tell tl) (hT : TabT tl ps)
    (hwh : ∀ p ∈ tl, p.1 ∈ [cL L, cK L, cH L, L + 1 + 1] ∨ cL L < p.1) (hlg : cL L < lg) {Q : Flow → Shared → Prop}
    (q : ∀ pl p0 p1 x0 x1 p2 x2 us0 us1 tl ps ps4 n0 n1 n2 od2 u2 vs c h' t' m', LawQ L s0 s1 base head (keysOf 0 c1 s0) (keysOf ht c2 s1) lg kl r0 r1 ml tell pl p0 p1 x0 x1 p2 x2 us0 us1 tl ps → Fr g L h' m' → MOk pl p2 tell ml base m' →
      News g L h' ((p0, accO x0 ([] : List Value).toArray n0) :: (p1, accO x1 ([] : List Value).toArray n1) :: (p2, accO x2 ((allP (runP (k0f (keysOf 0 c1 s0)) (k0f (keysOf ht c2 s1)) s0 s1 (s0 + s1))).map (val us0 us1)).toArray n2) :: (x2, od2) :: (lg, listOf (List.toArray vs) c) :: (204, tabObj ps4) :: (211, tabObj ps) :: tb0 126 :: tb0 133 :: (cM L, o4) :: (cN L, o5) :: tl) →
      IntsAre vs ((89 + (s1 : Int)) :: (runP (k0f (keysOf 0 c1 s0)) (k0f (keysOf ht c2 s1)) s0 s1 (s0 + s1)).2.2.map ent) → IniD od2 (.int 0 u2) →
      wpAny (model PW w) A (execs (b_law.drop 20) (lEnv L)) Q E ⟨h', gs, d, t', os⟩) :
    wpAny (model PW w) A (execs (b_law.drop 16) (lEnv L)) Q E ⟨h, gs, d, t, os⟩ := by
  obtain ⟨o3, uh, h3, e3⟩ := lt.eH
  obtain ⟨sl, o2, u0, u1, cs, h2, e2, hsl⟩ := lt.e2
  obtain ⟨a0, a1, a2, a3, b29, h4⟩ := lt.n0
  have LL : ∀ j : Nat, L ≤ L + j := fun j => Nat.le_add_right L j
  have tw : ∀ P, P ≤ 211 → ∀ a, L ≤ a → a ≠ P := fun P hP a ha => Nat.ne_of_gt (Nat.lt_of_lt_of_le (Nat.lt_of_le_of_lt hP h211) ha)
  have tlL : ∀ p ∈ tl, L ≤ p.1 := by
    intro p hp
    rcases hwh p hp with hp | hp
    · simp only [List.mem_cons, List.not_mem_nil, or_false] at hp
      rcases hp with e | e | e | e <;> rw [e]
      · exact LL 7
      · exact LL 6
      · exact LL 3
      · exact LL 2
    · exact Nat.le_trans (LL 7) (Nat.le_of_lt hp)
  have ar : ∀ {i j : Nat}, i ≠ j → L + i ≠ L + j := fun hij e => hij (Nat.add_left_cancel e)
  have tlc : ∀ j : Nat, j = 4 ∨ j = 5 → ∀ p ∈ tl, p.1 ≠ L + j := by
    intro j hj p hp
    rcases hwh p hp with hp | hp
    · simp only [List.mem_cons, List.not_mem_nil, or_false] at hp
      rcases hp with e | e | e | e <;> rw [e]
      · exact ar (i := 7) (by lia)
      · exact ar (i := 6) (by lia)
      · exact ar (i := 3) (by lia)
      · exact ar (i := 2) (by lia)
    · exact Nat.ne_of_gt (Nat.lt_of_le_of_lt (Nat.add_le_add_left (show j ≤ 7 by lia) L) hp)
  have lgc : ∀ j : Nat, j ≤ 7 → lg ≠ L + j := fun j hj => Nat.ne_of_gt (Nat.lt_of_le_of_lt (Nat.add_le_add_left hj L) hlg)
  have lgL : L ≤ lg := Nat.le_trans (LL 7) (Nat.le_of_lt hlg)
  have tn : ∀ {p}, p ∈ tl → p ∈ (211, tabObj ps) :: (lg, listOf (List.toArray vs) c) :: tb0 204 :: tb0 126 :: tb0 133 :: (cM L, o4) :: (cN L, o5) :: tl := fun hp => .tail _ (.tail _ (.tail _ (.tail _ (.tail _ (.tail _ (.tail _ hp))))))
  refine law16 LN LF G am F N (tn h3) e3 (tn h2) e2 (tn hsl) a1 a3 ?_
  intro pl ys cp nw h₁ t₁ m₁ hJ F₁ hm₁ mp N₁ hpl hap
  obtain ⟨ys0, nw0, p1, x1, us1, nn1, own1, od1, w1, hJ0, rfl, rfl, hd1, hx1, hi1, hP1, hd1'⟩ := hJ
  obtain ⟨ys00, nw00, p0, x0, us0, nn0, own0, od0, w0, hJ00, rfl, rfl, hd0, hx0, hi0, hP0, hd0'⟩ := hJ0
  obtain ⟨rfl, rfl⟩ := hJ00
  simp only [List.nil_append, List.append_nil] at hd0 hd1 N₁ hpl hap hd1'
  have w3 : (cH L, o3) ∈ (pl, listOf (List.toArray ([Value.ref p0] ++ [Value.ref p1])) cp) :: ((p1, accO x1 us1.toArray nn1) :: (own1 ++ (p0, accO x0 us0.toArray nn0) :: own0) ++ ((211, tabObj ps) :: (lg, listOf (List.toArray vs) c) :: tb0 204 :: tb0 126 :: tb0 133 :: (cM L, o4) :: (cN L, o5) :: tl)) := .tail _ (List.mem_append_right _ (tn h3))
  refine law17 LF G am F₁ N₁ w3 e3 ?_
  intro p2 x2 nn2 od2 w2 h₂ t₂ m₂ F₂ hm₂ mt N₂ hp2 hx2 hxp hi2
  -- who is not whom
  have W16 : ∀ {p}, p ∈ (211, tabObj ps) :: (lg, listOf (List.toArray vs) c) :: tb0 204 :: tb0 126 :: tb0 133 :: (cM L, o4) :: (cN L, o5) :: tl → p ∈ (pl, listOf (List.toArray ([Value.ref p0] ++ [Value.ref p1])) cp) :: ((p1, accO x1 us1.toArray nn1) :: (own1 ++ (p0, accO x0 us0.toArray nn0) :: own0) ++ ((211, tabObj ps) :: (lg, listOf (List.toArray vs) c) :: tb0 204 :: tb0 126 :: tb0 133 :: (cM L, o4) :: (cN L, o5) :: tl)) := fun hp => .tail _ (List.mem_append_right _ hp)
  have WN : ∀ {p}, p ∈ (p1, accO x1 us1.toArray nn1) :: (own1 ++ (p0, accO x0 us0.toArray nn0) :: own0) → p ∈ (pl, listOf (List.toArray ([Value.ref p0] ++ [Value.ref p1])) cp) :: ((p1, accO x1 us1.toArray nn1) :: (own1 ++ (p0, accO x0 us0.toArray nn0) :: own0) ++ ((211, tabObj ps) :: (lg, listOf (List.toArray vs) c) :: tb0 204 :: tb0 126 :: tb0 133 :: (cM L, o4) :: (cN L, o5) :: tl)) := fun hp => .tail _ (List.mem_append_left _ hp)
  have mp1 : (p1, accO x1 us1.toArray nn1) ∈ (p1, accO x1 us1.toArray nn1) :: (own1 ++ (p0, accO x0 us0.toArray nn0) :: own0) := .head _
  have mp0 : (p0, accO x0 us0.toArray nn0) ∈ (p1, accO x1 us1.toArray nn1) :: (own1 ++ (p0, accO x0 us0.toArray nn0) :: own0) := .tail _ (List.mem_append_right _ (.head _))
  have mo1 : ∀ {p}, p ∈ own1 → p ∈ (p1, accO x1 us1.toArray nn1) :: (own1 ++ (p0, accO x0 us0.toArray nn0) :: own0) := fun hp => .tail _ (List.mem_append_left _ hp)
  have mo0 : ∀ {p}, p ∈ own0 → p ∈ (p1, accO x1 us1.toArray nn1) :: (own1 ++ (p0, accO x0 us0.toArray nn0) :: own0) := fun hp => .tail _ (List.mem_append_right _ (.tail _ hp))
  obtain ⟨tl2, htl2⟩ : ∃ tl2, tl2 = (pl, listOf [Value.ref p0, .ref p1].toArray cp) :: (own1 ++ (own0 ++ tl)) := ⟨_, rfl⟩
  have split2 : ∀ {p}, p ∈ tl2 → p = (pl, listOf [Value.ref p0, .ref p1].toArray cp) ∨ p ∈ own1 ∨ p ∈ own0 ∨ p ∈ tl := by
    intro p hp
    rw [htl2] at hp
    rcases List.mem_cons.mp hp with hp | hp
    · exact .inl hp
    rcases List.mem_append.mp hp with hp | hp
    · exact .inr (.inl hp)
    rcases List.mem_append.mp hp with hp | hp
    · exact .inr (.inr (.inl hp))
    · exact .inr (.inr (.inr hp))
  have in2 : ∀ {p}, (p = (pl, listOf [Value.ref p0, .ref p1].toArray cp) ∨ p ∈ own1 ∨ p ∈ own0 ∨ p ∈ tl) → p ∈ tl2 := by
    intro p hp
    rw [htl2]
    rcases hp with rfl | hp | hp | hp
    · exact .head _
    · exact .tail _ (List.mem_append_left _ hp)
    · exact .tail _ (List.mem_append_right _ (List.mem_append_left _ hp))
    · exact .tail _ (List.mem_append_right _ (List.mem_append_right _ hp))
  have W17 : ∀ {p}, p ∈ tl2 → p ∈ (pl, listOf (List.toArray ([Value.ref p0] ++ [Value.ref p1])) cp) :: ((p1, accO x1 us1.toArray nn1) :: (own1 ++ (p0, accO x0 us0.toArray nn0) :: own0) ++ ((211, tabObj ps) :: (lg, listOf (List.toArray vs) c) :: tb0 204 :: tb0 126 :: tb0 133 :: (cM L, o4) :: (cN L, o5) :: tl)) := by
    intro p hp
    rcases split2 hp with rfl | hp | hp | hp
    · exact .head _
    · exact WN (mo1 hp)
    · exact WN (mo0 hp)
    · exact W16 (tn hp)
  have offX : ∀ {X : Addr} {o : Obj}, (X, o) ∈ (211, tabObj ps) :: (lg, listOf (List.toArray vs) c) :: tb0 204 :: tb0 126 :: tb0 133 :: (cM L, o4) :: (cN L, o5) :: tl → (∀ p ∈ tl, p.1 ≠ X) → (∀ p ∈ tl2, p.1 ≠ X) ∧ p0 ≠ X ∧ p1 ≠ X ∧ p2 ≠ X ∧ x2 ≠ X := by
    intro X o hX ht
    refine ⟨fun p hp => ?_, hap _ mp0 _ hX, hap _ mp1 _ hX, Nat.ne_of_gt (hp2 _ (W16 hX)), Nat.ne_of_gt (hx2 _ (W16 hX))⟩
    rcases split2 hp with rfl | hp | hp | hp
    · exact Ne.symm (hpl _ (List.mem_append_right _ hX))
    · exact hap _ (mo1 hp) _ hX
    · exact hap _ (mo0 hp) _ hX
    · exact ht p hp
  have x211 := offX (X := 211) (.head _) fun p hp => tw 211 (by decide) _ (tlL p hp)
  have x126 := offX (X := 126) (o := tabObj #[]) (by wtm_at "mm") fun p hp => tw 126 (by decide) _ (tlL p hp)
  have x133 := offX (X := 133) (o := tabObj #[]) (by wtm_at "mm") fun p hp => tw 133 (by decide) _ (tlL p hp)
  have x204 := offX (X := 204) (o := tabObj #[]) (by wtm_at "mm") fun p hp => tw 204 (by decide) _ (tlL p hp)
  have xM := offX (X := cM L) (o := o4) (by wtm_at "mm") fun p hp => tlc 4 (by simp) p hp
  have xN := offX (X := cN L) (o := o5) (by wtm_at "mm") fun p hp => tlc 5 (by simp) p hp
  have xl := offX (X := lg) (o := listOf (List.toArray vs) c) (by wtm_at "mm") fun p hp => lt.lne p hp
  have p01 : p0 ≠ p1 := hd1 (p0, accO x0 us0.toArray nn0) (List.mem_append_right _ (.head _))
  have q2 : ∀ {p}, p ∈ tl2 → p.1 ≠ p2 ∧ p.1 ≠ x2 := fun hp => ⟨Nat.ne_of_lt (hp2 _ (W17 hp)), Nat.ne_of_lt (hx2 _ (W17 hp))⟩
  have q01 : ∀ {p}, p ∈ tl2 → p.1 ≠ p0 ∧ p.1 ≠ p1 := by
    intro p hp
    rcases split2 hp with rfl | hp | hp | hp
    · exact ⟨Ne.symm (hpl (p0, accO x0 us0.toArray nn0) (List.mem_append_left _ mp0)), Ne.symm (hpl (p1, accO x1 us1.toArray nn1) (List.mem_append_left _ mp1))⟩
    · exact ⟨hd1' p hp (p0, accO x0 us0.toArray nn0) (.head _), hd1 p (List.mem_append_left _ hp)⟩
    · exact ⟨hd0 p hp, hd1 p (List.mem_append_right _ (.tail _ hp))⟩
    · exact ⟨Ne.symm (hap _ mp0 _ (tn hp)), Ne.symm (hap _ mp1 _ (tn hp))⟩
  have pp2 : ∀ {p}, p ∈ (p1, accO x1 us1.toArray nn1) :: (own1 ++ (p0, accO x0 us0.toArray nn0) :: own0) → p.1 ≠ p2 ∧ p.1 ≠ x2 := fun hp => ⟨Nat.ne_of_lt (hp2 _ (WN hp)), Nat.ne_of_lt (hx2 _ (WN hp))⟩
  have hmu : (MU p0 p1 lg p2 x2).Nodup := by
    simp only [MU, List.nodup_cons, List.mem_cons, List.not_mem_nil, or_false, not_or, not_false_eq_true, List.nodup_nil, and_true]
    exact ⟨⟨p01, xl.2.1, x204.2.1, (pp2 mp0).1, (pp2 mp0).2⟩, ⟨xl.2.2.1, x204.2.2.1, (pp2 mp1).1, (pp2 mp1).2⟩, ⟨tw 204 (by decide) _ lgL, Ne.symm xl.2.2.2.1, Ne.symm xl.2.2.2.2⟩, ⟨Ne.symm x204.2.2.2.1, Ne.symm x204.2.2.2.2⟩, Ne.symm hxp⟩
  have mun : ∀ {a : Addr}, a ≠ p0 → a ≠ p1 → a ≠ lg → a ≠ 204 → a ≠ p2 → a ≠ x2 → a ∉ MU p0 p1 lg p2 x2 := by
    intro a z1 z2 z3 z4 z5 z6
    simp only [MU, List.mem_cons, List.not_mem_nil, or_false, not_or]
    exact ⟨z1, z2, z3, z4, z5, z6⟩
  have offp : ∀ p ∈ tl2, p.1 ∉ MU p0 p1 lg p2 x2 := fun p hp => mun (q01 hp).1 (q01 hp).2 (xl.1 p hp) (x204.1 p hp) (q2 hp).1 (q2 hp).2
  have lt2 := lt.mono (tl' := tl2) (fun p hp => in2 (.inr (.inr (.inr hp)))) xl.1
  have hszs : szOf s0 s1 0 = s0 ∧ szOf s0 s1 1 = s1 := ⟨rfl, rfl⟩
  have lp2 : LawP head s0 s1 p0 p1 x0 x1 pl us0 us1 tl2 :=
    ⟨⟨cp, in2 (.inl rfl)⟩, ⟨od0, w0, in2 (.inr (.inr (.inl hx0))), hi0⟩, ⟨od1, w1, in2 (.inr (.inl hx1)), hi1⟩, hP0.mono fun a o z => in2 (.inr (.inr (.inl z))), hP1.mono fun a o z => in2 (.inr (.inl z))⟩
  have hT2 : TabT tl2 ps := hT.mono fun p hp => in2 (.inr (.inr (.inr hp)))
  obtain ⟨R, hRd⟩ : ∃ R, R = (211, tabObj ps) :: tb0 126 :: tb0 133 :: (cM L, o4) :: (cN L, o5) :: tl2 := ⟨_, rfl⟩
  have hR : ∀ p ∈ tl2, p ∈ R := fun p hp => hRd ▸ .tail _ (.tail _ (.tail _ (.tail _ (.tail _ hp))))
  have hRn : ∀ p ∈ R, p.1 ∉ MU p0 p1 lg p2 x2 := by
    rw [hRd]
    intro p hp
    rcases List.mem_cons.mp hp with rfl | hp
    · exact mun (Ne.symm x211.2.1) (Ne.symm x211.2.2.1) (Ne.symm (tw 211 (by decide) _ lgL)) (show (211 : Addr) ≠ 204 by decide) (Ne.symm x211.2.2.2.1) (Ne.symm x211.2.2.2.2)
    rcases List.mem_cons.mp hp with rfl | hp
    · exact mun (Ne.symm x126.2.1) (Ne.symm x126.2.2.1) (Ne.symm (tw 126 (by decide) _ lgL)) (show (126 : Addr) ≠ 204 by decide) (Ne.symm x126.2.2.2.1) (Ne.symm x126.2.2.2.2)
    rcases List.mem_cons.mp hp with rfl | hp
    · exact mun (Ne.symm x133.2.1) (Ne.symm x133.2.2.1) (Ne.symm (tw 133 (by decide) _ lgL)) (show (133 : Addr) ≠ 204 by decide) (Ne.symm x133.2.2.2.1) (Ne.symm x133.2.2.2.2)
    rcases List.mem_cons.mp hp with rfl | hp
    · exact mun (Ne.symm xM.2.1) (Ne.symm xM.2.2.1) (Ne.symm (lgc 4 (by decide))) (tw 204 (by decide) _ (LL 4)) (Ne.symm xM.2.2.2.1) (Ne.symm xM.2.2.2.2)
    rcases List.mem_cons.mp hp with rfl | hp
    · exact mun (Ne.symm xN.2.1) (Ne.symm xN.2.2.1) (Ne.symm (lgc 5 (by decide))) (tw 204 (by decide) _ (LL 5)) (Ne.symm xN.2.2.2.1) (Ne.symm xN.2.2.2.2)
    · exact offp p hp
  have hl0 : us0.length = s0 := by rw [Pcs.length lp2.pc0, piecesOf_len]
  have hl1 : us1.length = s1 := by rw [Pcs.length lp2.pc1, piecesOf_len]
  have et0 : us0.take s0 = us0 := List.take_of_length_le (by lia)
  have et1 : us1.take s1 = us1 := List.take_of_length_le (by lia)
  have MO : MOk pl p2 tell ml base m₂ := by
    refine ⟨(hm₂ "piles" (by decide)).trans mp, mt, (hm₂ "tell" (by decide)).trans ((hm₁ "tell" (by decide)).trans m1), ⟨ub, (hm₂ "base" (by decide)).trans ((hm₁ "base" (by decide)).trans m2)⟩, (hm₂ "marks" (by decide)).trans ((hm₁ "marks" (by decide)).trans m3)⟩
  have N₃ : News g L h₂ (muL p0 p1 x0 x1 lg p2 x2 us0 us1 ((s0, s1), [], []) nn0 nn1 nn2 od2 vs c #[] ++ ([] ++ R)) := by
    refine News.sub N₂ ?_
    show ∀ p ∈ (p0, accO x0 (us0.take s0).toArray nn0) :: (p1, accO x1 (us1.take s1).toArray nn1) :: (lg, listOf vs.toArray c) :: (204, tabObj #[]) :: (p2, accO x2 [].toArray nn2) :: (x2, od2) :: R, p ∈ _
    rw [et0, et1, hRd]
    have up : ∀ {p}, p ∈ (pl, listOf (List.toArray ([Value.ref p0] ++ [Value.ref p1])) cp) :: ((p1, accO x1 us1.toArray nn1) :: (own1 ++ (p0, accO x0 us0.toArray nn0) :: own0) ++ ((211, tabObj ps) :: (lg, listOf (List.toArray vs) c) :: tb0 204 :: tb0 126 :: tb0 133 :: (cM L, o4) :: (cN L, o5) :: tl)) → p ∈ (p2, accO x2 [].toArray nn2) :: (x2, od2) :: (pl, listOf (List.toArray ([Value.ref p0] ++ [Value.ref p1])) cp) :: ((p1, accO x1 us1.toArray nn1) :: (own1 ++ (p0, accO x0 us0.toArray nn0) :: own0) ++ ((211, tabObj ps) :: (lg, listOf (List.toArray vs) c) :: tb0 204 :: tb0 126 :: tb0 133 :: (cM L, o4) :: (cN L, o5) :: tl)) := fun hp => .tail _ (.tail _ hp)
    refine pm_cons (up (WN mp0)) (pm_cons (up (WN mp1)) (pm_cons (up (W16 (by wtm_at "mm"))) (pm_cons (up (W16 (by wtm_at "mm"))) (pm_cons (.head _) (pm_cons (.tail _ (.head _)) (pm_cons (up (W16 (by wtm_at "mm"))) (pm_cons (up (W16 (by wtm_at "mm"))) (pm_cons (up (W16 (by wtm_at "mm"))) (pm_cons (up (W16 (by wtm_at "mm"))) (pm_cons (up (W16 (by wtm_at "mm"))) fun p hp => up (W17 hp)))))))))))
  have hk0 := keys_mono 0 c1 s0
  have hk1 := keys_mono ht c2 s1
  refine law18 LN LF G am C B lt2 lp2 hR hRn hmu hk0 hk1 F₂ MO N₃ ⟨nn0, nn1, nn2, od2, _, w2, vs, c, #[], [], hI, hi2, fun h'' zz z => ⟨trivial, fun c hc => by cases hc⟩, fun zz hp => nomatch hp⟩ ?_
  intro news' h₃ t₃ m₃ F₃ MO₃ N₃' hJ₃
  obtain ⟨re1, re2, re3, re4, re5, re6, re7⟩ := run_end (k0 := k0f (keysOf 0 c1 s0)) (k1 := k0f (keysOf ht c2 s1)) hk0 hk1 a1 a3
  have rl := run_lenT (k0f (keysOf 0 c1 s0)) (k0f (keysOf ht c2 s1)) s0 s1 (s0 + s1)
  refine law19 LN LF G am lp2 a1 a3 hR hRn hmu re6 re7 (by lia) F₃ MO₃ N₃' hJ₃ ?_
  intro n0 n1 n2 od2' u2 vs' c' ps4 h₄ t₄ F₄ N₄ hI₄ hi₄
  rw [hRd] at N₄
  refine q pl p0 p1 x0 x1 p2 x2 us0 us1 tl2 ps ps4 n0 n1 n2 od2' u2 vs' c' h₄ t₄ m₃ ⟨lt2, lp2, hT2, ?_, offp, hmu⟩ F₄ MO₃ N₄ hI₄ hi₄
  exact fa_cons (⟨x211.1, x211.2.1, x211.2.2.1, x211.2.2.2.1, x211.2.2.2.2, tw 211 (by decide) _ lgL⟩) (fa_cons (⟨x126.1, x126.2.1, x126.2.2.1, x126.2.2.2.1, x126.2.2.2.2, tw 126 (by decide) _ lgL⟩) (fa_cons (⟨x133.1, x133.2.1, x133.2.2.1, x133.2.2.2.1, x133.2.2.2.2, tw 133 (by decide) _ lgL⟩) (fa_cons (⟨x204.1, x204.2.1, x204.2.2.1, x204.2.2.2.1, x204.2.2.2.2, tw 204 (by decide) _ lgL⟩) (fa_cons (⟨xM.1, xM.2.1, xM.2.2.1, xM.2.2.2.1, xM.2.2.2.2, lgc 4 (by decide)⟩) (fa_cons (⟨xN.1, xN.2.1, xN.2.2.1, xN.2.2.2.1, xN.2.2.2.2, lgc 5 (by decide)⟩) fa_nil)))))
end
end Mine
end
-- L23
section
namespace Mine
noncomputable def AllTabs (h : Heap) : Prop := ∀ P ∈ [(126 : Addr), 133, 204, 211], ∃ ps, h.get? P = some (tabObj ps)
section
variable {w : World} {A : Around} {E : Value → Shared → Prop} {K : Frag} {mg mb : Str → Option Value} {h g : Heap} {gs : Array GenState} {d : Drawn} {t : Nat} {os : OsState} {L : Addr} {m : Str → Option Value}
set_option maxHeartbeats 4000000 in
theorem lawC (LN : LawN K) (LF : LawF K) (SP : SpcK K) (G : Gd K mg mb g) (am : Amb A 30) (C126 : CodeHd g 130 126) (B126 : g.BuiltinsAt mg 126) (C133 : CodeHd g 137 133) (B133 : g.BuiltinsAt mg 133) (C211 : CodeHd g 213 211) (B211 : g.BuiltinsAt mg 211) (h211 : 211 < L)
    {o4 o5 od2 : Obj} {s0 s1 base head : Nat} {c1 c2 ht : Int} {lg kl r0 r1 ml tell pl p0 p1 x0 x1 p2 x2 : Addr} {us0 us1 vs : List Value} {tl : List (Addr × Obj)} {ps ps4 : Array Value} {n0 n1 n2 c : Nat} {u2 : Tok} (e4 : o4.data = .cell none) (e5 : o5.data = .cell none)
    (lq : LawQ L s0 s1 base head (keysOf 0 c1 s0) (keysOf ht c2 s1) lg kl r0 r1 ml tell pl p0 p1 x0 x1 p2 x2 us0 us1 tl ps) (F : Fr g L h m) (hm : MOk pl p2 tell ml base m)
    (N : News g L h ((p0, accO x0 ([] : List Value).toArray n0) :: (p1, accO x1 ([] : List Value).toArray n1) :: (p2, accO x2 ((allP (runP (k0f (keysOf 0 c1 s0)) (k0f (keysOf ht c2 s1)) s0 s1 (s0 + s1))).map (val us0 us1)).toArray n2) :: (x2, od2) :: (lg, listOf (List.toArray vs) c) :: (204, tabObj ps4) :: (211, tabObj ps) :: tb0 126 :: tb0 133 :: (cM L, o4) :: (cN L, o5) :: tl))
    (hI : IntsAre vs ((89 + (s1 : Int)) :: (runP (k0f (keysOf 0 c1 s0)) (k0f (keysOf ht c2 s1)) s0 s1 (s0 + s1)).2.2.map ent)) (hi : IniD od2 (.int 0 u2)) {Q : Flow → Shared → Prop}
    (q : ∀ h' gs' t' m', (AllBare gs → AllBare gs') → Fr g L h' m' → AllTabs h' → Q (.ret (.bool true)) ⟨h', gs', d, t', os⟩) :
    wpAny (model PW w) A (execs (b_law.drop 20) (lEnv L)) Q E ⟨h, gs, d, t, os⟩ := by
  have am29 := am.mono (m := 29) (by decide)
  obtain ⟨lt, lp, hT, off, offp, hmu⟩ := lq
  obtain ⟨a0, a1, a2, a3, b29, h4⟩ := lt.n0
  obtain ⟨sl, o2, u0, u1, cs, h2, e2, hsl⟩ := lt.e2
  obtain ⟨oL, hL, eL⟩ := lt.eL
  obtain ⟨oH, uh, hH, eH⟩ := lt.eH
  obtain ⟨cpl, epl⟩ := lp.epl
  obtain ⟨od0, w0, ex0, hi0⟩ := lp.ex0
  obtain ⟨od1, w1, ex1, hi1⟩ := lp.ex1
  have hk0 := keys_mono 0 c1 s0
  have hk1 := keys_mono ht c2 s1
  obtain ⟨re1, re2, re3, re4, re5, re6, re7⟩ := run_end (k0 := k0f (keysOf 0 c1 s0)) (k1 := k0f (keysOf ht c2 s1)) hk0 hk1 a1 a3
  generalize runP (k0f (keysOf 0 c1 s0)) (k0f (keysOf ht c2 s1)) s0 s1 (s0 + s1) = S at re1 re2 re3 re4 re5 re6 re7 N hI
  generalize hD : allP S = D at re1 re2 N
  have hDl : D.length = s0 + s1 := by
    rw [((List.perm_ext_iff_of_nodup (bef_nodup re1) (tags2_nodup s0 s1)).mpr fun x => by rw [re2, tags2_mem]).length_eq, tags2_len]
  have hDr : ∀ x ∈ D, inR s0 s1 x := fun x hx => (re2 x).mp hx
  obtain ⟨⟨z02, z12, zl2, z42⟩, ⟨y02, y12, yl2, y42⟩, z2x, z01, z0l, z1l, z04, z14, zl4⟩ := MU.ne hmu
  have o211 := off 211 (by simp)
  have o126 := off 126 (by simp)
  have o133 := off 133 (by simp)
  have o204 := off 204 (by simp)
  have oM := off (cM L) (by simp)
  have oN := off (cN L) (by simp)
  have LL : ∀ j : Nat, L ≤ L + j := fun j => Nat.le_add_right L j
  have tw : ∀ P, P ≤ 211 → ∀ j : Nat, L + j ≠ P := fun P hP j => Nat.ne_of_gt (Nat.lt_of_lt_of_le (Nat.lt_of_le_of_lt hP h211) (LL j))
  have tp : ∀ p ∈ tl, p.1 ≠ p0 ∧ p.1 ≠ p1 ∧ p.1 ≠ p2 := by
    intro p hp
    have := offp p hp
    simp only [MU, List.mem_cons, List.not_mem_nil, or_false, not_or] at this
    exact ⟨this.1, this.2.1, this.2.2.2.2.1⟩
  refine law20 LN LF G am29 lt (fun p hp => .tail _ (.tail _ (.tail _ (.tail _ (.tail _ (.tail _ (.tail _ (.tail _ (.tail _ (.tail _ (.tail _ hp))))))))))) F N ?_
  intro il Ts ci nw h₁ t₁ m₁ hS F₁ hm₁ mi N₁ hil hnw
  -- statement 21
  have N₁ : News g L h₁ ((211, tabObj ps) :: ((il, listOf (Ts.map Value.ref).toArray ci) :: (nw ++ ((p0, accO x0 ([] : List Value).toArray n0) :: (p1, accO x1 ([] : List Value).toArray n1) :: (p2, accO x2 (D.map (val us0 us1)).toArray n2) :: (x2, od2) :: (lg, listOf vs.toArray c) :: (204, tabObj ps4) :: tb0 126 :: tb0 133 :: (cM L, o4) :: (cN L, o5) :: tl)))) := News.sub N₁ (by
    refine pm_cons (.tail _ (List.mem_append_right _ (by wtm_at "mm"))) (pm_cons (.head _) (pm_app (fun p hp => .tail _ (List.mem_append_left _ hp)) ?_))
    have up : ∀ {p}, p ∈ (p0, accO x0 ([] : List Value).toArray n0) :: (p1, accO x1 ([] : List Value).toArray n1) :: (p2, accO x2 (D.map (val us0 us1)).toArray n2) :: (x2, od2) :: (lg, listOf vs.toArray c) :: (204, tabObj ps4) :: (211, tabObj ps) :: tb0 126 :: tb0 133 :: (cM L, o4) :: (cN L, o5) :: tl → p ∈ (il, listOf (Ts.map Value.ref).toArray ci) :: (nw ++ ((p0, accO x0 ([] : List Value).toArray n0) :: (p1, accO x1 ([] : List Value).toArray n1) :: (p2, accO x2 (D.map (val us0 us1)).toArray n2) :: (x2, od2) :: (lg, listOf vs.toArray c) :: (204, tabObj ps4) :: (211, tabObj ps) :: tb0 126 :: tb0 133 :: (cM L, o4) :: (cN L, o5) :: tl)) := fun hp => .tail _ (List.mem_append_right _ hp)
    exact pm_cons (up (by wtm_at "mm")) (pm_cons (up (by wtm_at "mm")) (pm_cons (up (by wtm_at "mm")) (pm_cons (up (by wtm_at "mm")) (pm_cons (up (by wtm_at "mm")) (pm_cons (up (by wtm_at "mm")) (pm_cons (up (by wtm_at "mm")) (pm_cons (up (by wtm_at "mm")) (pm_cons (up (by wtm_at "mm")) (pm_cons (up (by wtm_at "mm")) fun p hp => up (.tail _ (.tail _ (.tail _ (.tail _ (.tail _ (.tail _ (.tail _ (.tail _ (.tail _ (.tail _ (.tail _ hp)))))))))))))))))))))
  have nil0 : ∀ {X : Addr} {o : Obj}, (X, o) ∈ (p0, accO x0 ([] : List Value).toArray n0) :: (p1, accO x1 ([] : List Value).toArray n1) :: (p2, accO x2 (D.map (val us0 us1)).toArray n2) :: (x2, od2) :: (lg, listOf vs.toArray c) :: (204, tabObj ps4) :: (211, tabObj ps) :: tb0 126 :: tb0 133 :: (cM L, o4) :: (cN L, o5) :: tl → il ≠ X ∧ ∀ p ∈ nw, p.1 ≠ X := fun hX => ⟨Ne.symm (hil _ (List.mem_append_right _ hX)), fun p hp => hnw p hp _ hX⟩
  have i211 := nil0 (X := 211) (o := tabObj ps) (by wtm_at "mm")
  have i126 := nil0 (X := 126) (o := tabObj #[]) (by wtm_at "mm")
  have i133 := nil0 (X := 133) (o := tabObj #[]) (by wtm_at "mm")
  have iM := nil0 (X := cM L) (o := o4) (by wtm_at "mm")
  have iN := nil0 (X := cN L) (o := o5) (by wtm_at "mm")
  have ip0 := nil0 (X := p0) (o := accO x0 ([] : List Value).toArray n0) (by wtm_at "mm")
  have ip1 := nil0 (X := p1) (o := accO x1 ([] : List Value).toArray n1) (by wtm_at "mm")
  have ip2 := nil0 (X := p2) (o := accO x2 (D.map (val us0 us1)).toArray n2) (by wtm_at "mm")
  have tl21 : ∀ {p}, p ∈ tl → p ∈ (il, listOf (Ts.map Value.ref).toArray ci) :: (nw ++ ((p0, accO x0 ([] : List Value).toArray n0) :: (p1, accO x1 ([] : List Value).toArray n1) :: (p2, accO x2 (D.map (val us0 us1)).toArray n2) :: (x2, od2) :: (lg, listOf vs.toArray c) :: (204, tabObj ps4) :: tb0 126 :: tb0 133 :: (cM L, o4) :: (cN L, o5) :: tl)) := fun hp => .tail _ (List.mem_append_right _ (.tail _ (.tail _ (.tail _ (.tail _ (.tail _ (.tail _ (.tail _ (.tail _ (.tail _ (.tail _ hp)))))))))))
  refine law21 LN G am29 C211 B211 F₁ N₁ ?_ (fun p hp => tl21 hp) hT mi (.head _) (hS.mono fun a o z => .tail _ (List.mem_append_left _ z)) a0 a1 a2 a3 re1 re2 hDl ?_
  · refine ne_cons i211.1 fun p hp => ?_
    rcases List.mem_append.mp hp with hp | hp
    · exact i211.2 p hp
    · exact ne_cons o211.2.1 (ne_cons o211.2.2.1 (ne_cons o211.2.2.2.1 (ne_cons o211.2.2.2.2.1 (ne_cons o211.2.2.2.2.2 (ne_cons (show (204 : Addr) ≠ 211 by decide) (ne_cons (show (126 : Addr) ≠ 211 by decide) (ne_cons (show (133 : Addr) ≠ 211 by decide) (ne_cons (tw 211 (by decide) 4) (ne_cons (tw 211 (by decide) 5) o211.1))))))))) p hp
  intro dl vd cd ps5 h₂ t₂ m₂ F₂ hm₂ md N₂ hdl hV
  -- statement 22
  have hps : ∀ p ∈ D.map (pcT s0 s1), p.1.length + p.2.length ≤ 2 := by
    intro p hp
    obtain ⟨x, hx, rfl⟩ := List.mem_map.mp hp
    exact pcT_two a1 a3 (hDr x hx)
  have hok : ∀ p ∈ D.map (pcT s0 s1), PyData.strOk p.1 = true ∧ PyData.strOk p.2 = true := by
    intro p hp
    obtain ⟨x, hx, rfl⟩ := List.mem_map.mp hp
    exact pcT_ok a1 a3 (hDr x hx)
  have hz18 : (D.map (pcT s0 s1)).length ≤ 18 := by rw [List.length_map, hDl]; lia
  refine law22 am29 F₂ md N₂ (.head _) (hV.mono fun a o z => .tail _ (.tail _ z)) hps hz18 ?_
  intro ut h₃ t₃ m₃ F₃ hm₃ mt N₃
  -- statement 23
  have m3 : m₃ "third" = some (.ref p2) := (hm₃ "third" (by decide)).trans ((hm₂ "third" (by decide)).trans ((hm₁ "third" (by decide)).trans hm.b))
  have m4 : m₃ "due" = some (.ref dl) := (hm₃ "due" (by decide)).trans md
  have m5 : m₃ "piles" = some (.ref pl) := (hm₃ "piles" (by decide)).trans ((hm₂ "piles" (by decide)).trans ((hm₁ "piles" (by decide)).trans hm.a))
  obtain ⟨W, hWd⟩ : ∃ W, W = (dl, listOf vd.toArray cd) :: (211, tabObj ps5) :: (p0, accO x0 ([] : List Value).toArray n0) :: (p1, accO x1 ([] : List Value).toArray n1) :: (x2, od2) :: (lg, listOf vs.toArray c) :: (204, tabObj ps4) :: (cM L, o4) :: (cN L, o5) :: (il, listOf (Ts.map Value.ref).toArray ci) :: (nw ++ tl) := ⟨_, rfl⟩
  have upN : ∀ {p}, p ∈ (p0, accO x0 ([] : List Value).toArray n0) :: (p1, accO x1 ([] : List Value).toArray n1) :: (p2, accO x2 (D.map (val us0 us1)).toArray n2) :: (x2, od2) :: (lg, listOf vs.toArray c) :: (204, tabObj ps4) :: tb0 126 :: tb0 133 :: (cM L, o4) :: (cN L, o5) :: tl → p ∈ (dl, listOf vd.toArray cd) :: (211, tabObj ps5) :: (il, listOf (Ts.map Value.ref).toArray ci) :: (nw ++ ((p0, accO x0 ([] : List Value).toArray n0) :: (p1, accO x1 ([] : List Value).toArray n1) :: (p2, accO x2 (D.map (val us0 us1)).toArray n2) :: (x2, od2) :: (lg, listOf vs.toArray c) :: (204, tabObj ps4) :: tb0 126 :: tb0 133 :: (cM L, o4) :: (cN L, o5) :: tl)) := fun hp => .tail _ (.tail _ (.tail _ (List.mem_append_right _ hp)))
  have N₃ : News g L h₃ (tb0 126 :: tb0 133 :: (p2, accO x2 (D.map (val us0 us1)).toArray n2) :: W) := News.sub N₃ (by
    rw [hWd]
    refine pm_cons (upN (by wtm_at "mm")) (pm_cons (upN (by wtm_at "mm")) (pm_cons (upN (by wtm_at "mm")) (pm_cons (.head _) (pm_cons (.tail _ (.head _)) (pm_cons (upN (by wtm_at "mm")) (pm_cons (upN (by wtm_at "mm")) (pm_cons (upN (by wtm_at "mm")) (pm_cons (upN (by wtm_at "mm")) (pm_cons (upN (by wtm_at "mm")) (pm_cons (upN (by wtm_at "mm")) (pm_cons (upN (by wtm_at "mm")) (pm_cons (.tail _ (.tail _ (.head _))) (pm_app ?_ ?_)))))))))))))
    · exact fun p hp => .tail _ (.tail _ (.tail _ (List.mem_append_left _ hp)))
    · exact fun p hp => upN (.tail _ (.tail _ (.tail _ (.tail _ (.tail _ (.tail _ (.tail _ (.tail _ (.tail _ (.tail _ hp)))))))))))
  have inW : ∀ {p}, p ∈ tl → p ∈ W := fun hp => hWd ▸ .tail _ (.tail _ (.tail _ (.tail _ (.tail _ (.tail _ (.tail _ (.tail _ (.tail _ (.tail _ (List.mem_append_right _ hp))))))))))
  have inWn : ∀ {p}, p ∈ nw → p ∈ W := fun hp => hWd ▸ .tail _ (.tail _ (.tail _ (.tail _ (.tail _ (.tail _ (.tail _ (.tail _ (.tail _ (.tail _ (List.mem_append_left _ hp))))))))))
  have dlX : ∀ {X : Addr} {o : Obj}, (X, o) ∈ (p0, accO x0 ([] : List Value).toArray n0) :: (p1, accO x1 ([] : List Value).toArray n1) :: (p2, accO x2 (D.map (val us0 us1)).toArray n2) :: (x2, od2) :: (lg, listOf vs.toArray c) :: (204, tabObj ps4) :: tb0 126 :: tb0 133 :: (cM L, o4) :: (cN L, o5) :: tl → dl ≠ X := fun hX => Ne.symm (hdl _ (.tail _ (.tail _ (List.mem_append_right _ hX))))
  have inA : ∀ {p}, p ∈ (il, listOf (Ts.map Value.ref).toArray ci) :: (nw ++ ((p0, accO x0 ([] : List Value).toArray n0) :: (p1, accO x1 ([] : List Value).toArray n1) :: (p2, accO x2 (D.map (val us0 us1)).toArray n2) :: (x2, od2) :: (lg, listOf vs.toArray c) :: (204, tabObj ps4) :: tb0 126 :: tb0 133 :: (cM L, o4) :: (cN L, o5) :: tl)) → (∃ us, p.2 = tupO us) → p ∈ W := by
    intro p hp zq1
    obtain ⟨us, hu⟩ := zq1
    rcases List.mem_cons.mp hp with rfl | hp
    · exact absurd (Value.type.inj (congrArg Obj.cls hu)) (by decide)
    rcases List.mem_append.mp hp with hp | hp
    · exact inWn hp
    rcases List.mem_cons.mp hp with rfl | hp
    · cases hu
    rcases List.mem_cons.mp hp with rfl | hp
    · cases hu
    rcases List.mem_cons.mp hp with rfl | hp
    · cases hu
    rcases List.mem_cons.mp hp with rfl | hp
    · obtain ⟨_, _, _, rfl⟩ := hi; exact absurd (Value.type.inj (congrArg Obj.cls hu)) (by decide)
    rcases List.mem_cons.mp hp with rfl | hp
    · exact absurd (Value.type.inj (congrArg Obj.cls hu)) (by decide)
    rcases List.mem_cons.mp hp with rfl | hp
    · cases hu
    rcases List.mem_cons.mp hp with rfl | hp
    · cases hu
    rcases List.mem_cons.mp hp with rfl | hp
    · cases hu
    rcases List.mem_cons.mp hp with rfl | hp
    · have z : o4.data = (tupO us).data := congrArg Obj.data hu
      rw [e4] at z; cases z
    rcases List.mem_cons.mp hp with rfl | hp
    · have z : o5.data = (tupO us).data := congrArg Obj.data hu
      rw [e5] at z; cases z
    · exact inW hp
  have hVW : Pcs (fun a o => (a, o) ∈ W) vd (D.map (pcT s0 s1)) := Pcs.mono (fun a o z => inA z.1 z.2) (Pcs.mk hV)
  have hPW : Pcs (fun a o => (a, o) ∈ W) (D.map (val us0 us1)) (D.map (pcT s0 s1)) := pcs_tags (lp.pc0.mono fun a o z => inW z) (lp.pc1.mono fun a o z => inW z) hDr
  have offW : ∀ {X : Addr}, dl ≠ X → (211 : Addr) ≠ X → p0 ≠ X → p1 ≠ X → x2 ≠ X → lg ≠ X → (204 : Addr) ≠ X → cM L ≠ X → cN L ≠ X → il ≠ X → (∀ p ∈ nw, p.1 ≠ X) → (∀ p ∈ tl, p.1 ≠ X) → ∀ p ∈ W, p.1 ≠ X := by
    intro X k1 k2 k3 k4 k5 k6 k7 k8 k9 k10 k11 k12
    rw [hWd]
    refine ne_cons k1 (ne_cons k2 (ne_cons k3 (ne_cons k4 (ne_cons k5 (ne_cons k6 (ne_cons k7 (ne_cons k8 (ne_cons k9 (ne_cons k10 fun p hp => ?_)))))))))
    rcases List.mem_append.mp hp with hp | hp
    · exact k11 p hp
    · exact k12 p hp
  have w126 := offW (dlX (X := 126) (o := tabObj #[]) (by wtm_at "mm")) (by decide) o126.2.1 o126.2.2.1 o126.2.2.2.2.1 o126.2.2.2.2.2 (by decide) (tw 126 (by decide) 4) (tw 126 (by decide) 5) i126.1 i126.2 o126.1
  have w133 := offW (dlX (X := 133) (o := tabObj #[]) (by wtm_at "mm")) (by decide) o133.2.1 o133.2.2.1 o133.2.2.2.2.1 o133.2.2.2.2.2 (by decide) (tw 133 (by decide) 4) (tw 133 (by decide) 5) i133.1 i133.2 o133.1
  have wp2 := offW (dlX (X := p2) (o := accO x2 (D.map (val us0 us1)).toArray n2) (by wtm_at "mm")) (Ne.symm o211.2.2.2.1) z02 z12 (Ne.symm z2x) zl2 z42 (Ne.symm oM.2.2.2.1) (Ne.symm oN.2.2.2.1) ip2.1 ip2.2 fun p hp => (tp p hp).2.2
  have hdlW : (dl, listOf vd.toArray cd) ∈ W := by rw [hWd]; exact .head _
  have hx2W : (x2, od2) ∈ W := by rw [hWd]; wtm_at "mm"
  have T0 : TabO (tabObj #[]) := ⟨#[], rfl, trivial⟩
  refine law23 LN LF SP G am29 C126 B126 C133 B133 F₃ N₃ T0 T0 ⟨by decide, Ne.symm o126.2.2.2.1, Ne.symm o133.2.2.2.1⟩ (fun p hp => ⟨w126 p hp, w133 p hp, wp2 p hp⟩) hx2W hi m3 mt m4 hdlW hPW hVW hps hok hz18 ?_
  intro o126' o133' h₄ gs₄ t₄ T126 T133 hb4 F₄ N₄
  -- statements 24 and 25
  obtain ⟨W2, hW2d⟩ : ∃ W2, W2 = (126, o126') :: (133, o133') :: (dl, listOf vd.toArray cd) :: (211, tabObj ps5) :: (p0, accO x0 ([] : List Value).toArray n0) :: (p1, accO x1 ([] : List Value).toArray n1) :: (x2, od2) :: (lg, listOf vs.toArray c) :: (204, tabObj ps4) :: (il, listOf (Ts.map Value.ref).toArray ci) :: (nw ++ tl) := ⟨_, rfl⟩
  have N₄ : News g L h₄ ((cM L, o4) :: (cN L, o5) :: W2) := News.sub N₄ (by
    rw [hW2d, hWd]
    refine pm_cons (by wtm_at "mm") (pm_cons (by wtm_at "mm") (pm_cons (by wtm_at "mm") (pm_cons (by wtm_at "mm") (pm_cons (by wtm_at "mm") (pm_cons (by wtm_at "mm") (pm_cons (by wtm_at "mm") (pm_cons (by wtm_at "mm") (pm_cons (by wtm_at "mm") (pm_cons (by wtm_at "mm") (pm_cons (by wtm_at "mm") (pm_cons (by wtm_at "mm") ?_)))))))))))
    exact fun p hp => .tail _ (.tail _ (.tail _ (.tail _ (.tail _ (.tail _ (.tail _ (.tail _ (.tail _ (.tail _ (.tail _ (.tail _ hp))))))))))))
  have in2 : ∀ {p}, p ∈ tl → p ∈ W2 := fun hp => hW2d ▸ .tail _ (.tail _ (.tail _ (.tail _ (.tail _ (.tail _ (.tail _ (.tail _ (.tail _ (.tail _ (List.mem_append_right _ hp))))))))))
  have offW2 : ∀ {X : Addr}, (126 : Addr) ≠ X → (133 : Addr) ≠ X → dl ≠ X → (211 : Addr) ≠ X → p0 ≠ X → p1 ≠ X → x2 ≠ X → lg ≠ X → (204 : Addr) ≠ X → il ≠ X → (∀ p ∈ nw, p.1 ≠ X) → (∀ p ∈ tl, p.1 ≠ X) → ∀ p ∈ W2, p.1 ≠ X := by
    intro X j1 j2 k1 k2 k3 k4 k5 k6 k7 k10 k11 k12
    rw [hW2d]
    refine ne_cons j1 (ne_cons j2 (ne_cons k1 (ne_cons k2 (ne_cons k3 (ne_cons k4 (ne_cons k5 (ne_cons k6 (ne_cons k7 (ne_cons k10 fun p hp => ?_)))))))))
    rcases List.mem_append.mp hp with hp | hp
    · exact k11 p hp
    · exact k12 p hp
  have wM := offW2 (Ne.symm (tw 126 (by decide) 4)) (Ne.symm (tw 133 (by decide) 4)) (dlX (X := cM L) (o := o4) (by wtm_at "mm")) (Ne.symm (tw 211 (by decide) 4)) oM.2.1 oM.2.2.1 oM.2.2.2.2.1 oM.2.2.2.2.2 (Ne.symm (tw 204 (by decide) 4)) iM.1 iM.2 oM.1
  have wN := offW2 (Ne.symm (tw 126 (by decide) 5)) (Ne.symm (tw 133 (by decide) 5)) (dlX (X := cN L) (o := o5) (by wtm_at "mm")) (Ne.symm (tw 211 (by decide) 5)) oN.2.1 oN.2.2.1 oN.2.2.2.2.1 oN.2.2.2.2.2 (Ne.symm (tw 204 (by decide) 5)) iN.1 iN.2 oN.1
  refine law24 LN G am29 F₄ N₄ e4 e5 (fun p hp => ⟨wM p hp, wN p hp⟩) (in2 h2) e2 (in2 hsl) a0 a1 a2 a3 ?_
  intro o4' o5' v1 v2 utt h₅ t₅ m₅ d4 d5 F₅ hm₅ mT N₅
  -- statement 26
  have lgW2 : (lg, listOf vs.toArray c) ∈ W2 := by rw [hW2d]; wtm_at "mm"
  refine law26 LN G am29 F₅ N₅ (.head _) d4 (.tail _ (.head _)) d5 (.tail _ (.tail _ (in2 hL))) eL (.tail _ (.tail _ lgW2)) mT hI a0 a1 a2 a3 re3 re4 re5 ?_
  intro h₆ t₆ F₆ N₆
  -- statement 27
  obtain ⟨W3, hW3d⟩ : ∃ W3, W3 = (133, o133') :: (211, tabObj ps5) :: (204, tabObj ps4) :: tl := ⟨_, rfl⟩
  have N₆ : News g L h₆ ((126, o126') :: (p0, accO x0 ([] : List Value).toArray n0) :: (p1, accO x1 ([] : List Value).toArray n1) :: W3) := News.sub N₆ (by
    rw [hW3d, hW2d]
    refine pm_cons (by wtm_at "mm") (pm_cons (by wtm_at "mm") (pm_cons (by wtm_at "mm") (pm_cons (by wtm_at "mm") (pm_cons (by wtm_at "mm") (pm_cons (by wtm_at "mm") ?_)))))
    exact fun p hp => .tail _ (.tail _ (.tail _ (.tail _ (.tail _ (.tail _ (.tail _ (.tail _ (.tail _ (.tail _ (.tail _ (.tail _ (List.mem_append_right _ hp)))))))))))))
  have in3 : ∀ {p}, p ∈ tl → p ∈ W3 := fun hp => hW3d ▸ .tail _ (.tail _ (.tail _ hp))
  refine law27 LN LF SP G am C126 B126 F₆ N₆ ⟨Ne.symm o126.2.1, Ne.symm o126.2.2.1, z01⟩ ?_ T126 (in3 ex0) hi0 (in3 ex1) hi1 h4 (in3 epl) (in3 hH) eH ((hm₅ "piles" (by decide)).trans m5) ?_
  · rw [hW3d]
    intro p hp
    rcases List.mem_cons.mp hp with rfl | hp
    · exact ⟨show (133 : Addr) ≠ 126 by decide, Ne.symm o133.2.1, Ne.symm o133.2.2.1⟩
    rcases List.mem_cons.mp hp with rfl | hp
    · exact ⟨show (211 : Addr) ≠ 126 by decide, Ne.symm o211.2.1, Ne.symm o211.2.2.1⟩
    rcases List.mem_cons.mp hp with rfl | hp
    · exact ⟨show (204 : Addr) ≠ 126 by decide, Ne.symm o204.2.1, Ne.symm o204.2.2.1⟩
    · exact ⟨o126.1 p hp, (tp p hp).1, (tp p hp).2.1⟩
  intro o126'' h₇ gs₇ t₇ T126' hb7 F₇ N₇
  refine q h₇ gs₇ t₇ m₅ (fun z => hb7 (hb4 z)) F₇ ?_
  intro P hP
  simp only [List.mem_cons, List.not_mem_nil, or_false] at hP
  obtain ⟨pA, rfl, -⟩ := T126'
  obtain ⟨pB, rfl, -⟩ := T133
  rcases hP with rfl | rfl | rfl | rfl
  · exact ⟨pA, na N₇ (.head _)⟩
  · exact ⟨pB, na N₇ (a := 133) (o := tabObj pB) (by rw [hW3d]; wtm_at "mm")⟩
  · exact ⟨ps4, na N₇ (a := 204) (o := tabObj ps4) (by rw [hW3d]; wtm_at "mm")⟩
  · exact ⟨ps5, na N₇ (a := 211) (o := tabObj ps5) (by rw [hW3d]; wtm_at "mm")⟩
end
end Mine
end
-- L24
section
namespace Mine
section
variable {w : World} {A : Around} {E : Value → Shared → Prop} {K : Frag} {mg mb : Str → Option Value} {h g : Heap} {gs : Array GenState} {d : Drawn} {t : Nat} {os : OsState}
set_option maxHeartbeats 2000000 in
theorem law_spec (LN : LawN K) (LF : LawF K) (SP : SpcK K) (KF : FnK K 214 "law" "law" a_law b_law s_law [] .none .none 213 .none) (G : Gd K mg mb g) (sub : Sub g h) (sz : g.objs.size ≤ h.objs.size) (am : Amb A 31) (hfr : A.frames = some [])
    (C126 : CodeHd g 130 126) (B126 : g.BuiltinsAt mg 126) (C133 : CodeHd g 137 133) (B133 : g.BuiltinsAt mg 133) (C204 : CodeHd g 208 204) (B204 : g.BuiltinsAt mg 204) (C211 : CodeHd g 213 211) (B211 : g.BuiltinsAt mg 211)
    (hT : ∀ P ∈ [(126 : Addr), 133, 204, 211], h.get? P = some (tabObj #[]) ∧ g.get? P = none) (h211 : 211 < h.objs.size)
    {ls : Addr} {c : Nat} {vs : List Value} {ns : List Int} (hls : g.get? ls = some (listOf vs.toArray c)) (hI : IntsAre vs ns) (hz : ns.length ≤ 63) {Q : Value → Shared → Prop}
    (q : ∀ h' gs' t', (AllBare gs → AllBare gs') → Sub g h' → AllTabs h' → Q (.bool true) ⟨h', gs', d, t', os⟩) :
    wpAny (model PW w) A (call (.ref 214) [.ref ls] []) Q E ⟨h, gs, d, t, os⟩ := by
  refine call_fnC am.room KF G sub sz (W := [tb0 126, tb0 133, tb0 204, tb0 211]) ?_ (binds := [("script", .ref ls)]) (fun pm => BindsTo.of_eq (by kernel_rfl)) ?_
  · exact fa_cons (hT 126 (by simp)) (fa_cons (hT 133 (by simp)) (fa_cons (hT 204 (by simp)) (fa_cons (hT 211 (by simp)) fa_nil)))
  intro L h₁ t₁ cells F N CA lx kp hL
  rw [law_cells] at CA
  obtain ⟨o7, o6, o5, o4, o3, o2, o1, rfl, e7, e6, e5, e4, e3, e2, e1⟩ := CellsAre.seven CA
  have hl : 211 < L := Nat.lt_of_lt_of_le h211 hL
  have am30 : Amb (A.deeper (lEnv L)) 30 := Amb.deeper (n := 30) am
  have am29 := am30.mono (m := 29) (by decide)
  have c1 : o1.data = .cell none := e1.trans (by with_unfolding_all rfl)
  have c2 : o2.data = .cell none := e2.trans (by with_unfolding_all rfl)
  have c3 : o3.data = .cell none := e3.trans (by with_unfolding_all rfl)
  have c4 : o4.data = .cell none := e4.trans (by with_unfolding_all rfl)
  have c5 : o5.data = .cell none := e5.trans (by with_unfolding_all rfl)
  have c6 : o6.data = .cell none := e6.trans (by with_unfolding_all rfl)
  have c7 : o7.data = .cell none := e7.trans (by with_unfolding_all rfl)
  refine lawA LN LF G am29 (Around.frames_deeper hfr) C211 B211 hl F N c1 c2 c3 c6 c7 (by with_unfolding_all rfl) hls hI hz ?_
  intro s0 s1 base head k1 k2 ht lg kl r0 r1 ml tell tl ps vs₂ c₂ ub h₂ t₂ m₂ F₂ mt mb' mm' N₂ hI₂ hh0 hh3 lt hTT hwh hlg
  refine lawB LN LF G am29 C204 B204 hl F₂ mt mb' mm' N₂ hI₂ lt hTT hwh hlg ?_
  intro pl p0 p1 x0 x1 p2 x2 us0 us1 tl₃ ps₃ ps4 n0 n1 n2 od2 u2 vs₃ c₃ h₃ t₃ m₃ lq F₃ MO N₃ hI₃ hi₃
  refine lawC LN LF SP G am30 C126 B126 C133 B133 C211 B211 hl c4 c5 lq F₃ MO N₃ hI₃ hi₃ ?_
  intro h₄ gs₄ t₄ m₄ hb F₄ hA
  exact q h₄ gs₄ t₄ hb F₄.keep hA
end
end Mine
end
-- L25
section
namespace Mine
theorem in_hides {K : Frag} {h : Heap} (X : K.In h) (n : ∀ P ∈ tabA, K.lookup P = none) : K.In (hides h tabA) := fun a o e => by
  by_cases ha : a ∈ tabA
  · rw [n a ha] at e; cases e
  · exact hides_get (X a o e) ha
theorem codeHd_of {K : Frag} {h : Heap} {c P : Addr} (X : K.In h) (e : codeB K c P = true) : CodeHd h c P := by
  unfold codeB at e
  set_option tactic.hygienic true in split at e
  · rename_i t d vs sl ho
    simp only [Bool.and_eq_true, Bool.not_eq_true', beq_iff_eq, beq_eq_false_iff_ne] at e
    obtain ⟨⟨⟨⟨⟨⟨⟨e1, e2⟩, e3⟩, e4⟩, e5⟩, e6⟩, e7⟩, e8⟩ := e
    subst e1
    have f4 : ∃ file tf, vs.getD 18 .none = .str file tf := by
      cases hv : vs.getD 18 .none <;> rw [hv] at e4 <;> first | exact ⟨_, _, rfl⟩ | cases e4
    have f5 : ∃ i tf, vs.getD 7 .none = .int i tf := by
      cases hv : vs.getD 7 .none <;> rw [hv] at e5 <;> first | exact ⟨_, _, rfl⟩ | cases e5
    have f6 : ∃ b, vs.getD 9 .none = .bool b := by
      cases hv : vs.getD 9 .none <;> rw [hv] at e6 <;> first | exact ⟨_, rfl⟩ | cases e6
    have f7 : ∃ i tf, vs.getD 10 .none = .int i tf := by
      cases hv : vs.getD 10 .none <;> rw [hv] at e7 <;> first | exact ⟨_, _, rfl⟩ | cases e7
    obtain ⟨file, tf, g4⟩ := f4
    obtain ⟨fl, tg, g5⟩ := f5
    obtain ⟨inF, g6⟩ := f6
    obtain ⟨tx, tt, g7⟩ := f7
    exact ⟨_, vs, file, tf, fl, tg, inF, tx, tt, X _ _ ho, rfl, rfl, e2, e3, g4, g5, g6, g7, e8⟩
  · cases e
structure AllF (K : Frag) : Prop where
  ln : LawN K
  lf : LawF K
  sp : SpcK K
  fn : FnK K 214 "law" "law" a_law b_law s_law [] .none .none 213 .none
  c126 : codeB K 130 126 = true
  c133 : codeB K 137 133 = true
  c204 : codeB K 208 204 = true
  c211 : codeB K 213 211 = true
section
variable {w : World} {E : Value → Shared → Prop} {K : Frag} {mg mb : Str → Option Value} {p : Program} {loose : List Str} {mean : ExcName → Option Value} {s₁ : Shared}
theorem ns_hides {h : Heap} {a : Addr} {m : Str → Option Value} (x : h.Ns a m) (ha : a ∉ tabA) : (hides h tabA).Ns a m := x.at' fun o e => hides_get e ha
theorem law_close (T : Top p loose mean mg mb s₁.heap) (X : K.In s₁.heap) (nK : ∀ P ∈ tabA, K.lookup P = none) (AF : AllF K) (tb : ∀ P ∈ tabA, s₁.heap.get? P = some (tabObj #[])) (hsz : 211 < s₁.heap.objs.size)
    {ls : Addr} {c : Nat} {vs : List Value} {ns : List Int} (hl0 : ls ∉ tabA) (hls : s₁.heap.get? ls = some (listOf vs.toArray c)) (hI : IntsAre vs ns) (hz : ns.length ≤ 63) (hg : s₁.gens = #[]) {Q : Value → Shared → Prop}
    (q : ∀ s', AllBare s'.gens → OldK s₁.heap s'.heap → s'.os = s₁.os → Q (.bool true) s') :
    wpAny (model PW w) callerA (call (.ref 214) [.ref ls] []) Q E s₁ := by
  obtain ⟨h, gs, d, t, os⟩ := s₁
  dsimp only at T X tb hsz hls hg q
  have XK := in_hides X nK
  have hT : ∀ P ∈ tabA, h.get? P = some (tabObj #[]) ∧ (hides h tabA).get? P = none := fun P hP => ⟨tb P hP, hides_in hP⟩
  have nlim : (hides h tabA).NoLimit := let ⟨mc, a, r⟩ := T.nolimit; ⟨mc, ns_hides a (by decide), r⟩
  have G : Gd K mg mb (hides h tabA) := ⟨XK, ns_hides T.g (by decide), ns_hides T.b (by decide), nlim, T.builtins⟩
  have BA : ∀ P ∈ tabA, (hides h tabA).BuiltinsAt mg P := by
    intro P hP
    obtain ⟨bm, ob, b1, b2, b3, b4, b5, b6⟩ := T.bmain
    have nP : ∀ a, h.get? a = some ob → a ∉ tabA := by
      intro a ha hm
      rw [(hT a hm).1] at ha
      cases ha
      cases b4
    have nM : bm ≠ mainGlobals := by
      obtain ⟨o, es, ep, e, hd, _⟩ := T.g
      rintro rfl
      rw [b3] at e
      cases e
      rw [b6] at hd
      cases hd
    exact ⟨bm, ob, b1, b2, nM, fun q => nP bm b3 (q ▸ hP), hides_get b3 (nP bm b3), b4, b5, b6⟩
  have C126 := codeHd_of XK AF.c126
  have C133 := codeHd_of XK AF.c133
  have C204 := codeHd_of XK AF.c204
  have C211 := codeHd_of XK AF.c211
  refine law_spec AF.ln AF.lf AF.sp AF.fn G hidesSub (Nat.le_of_eq hides_size) ⟨rfl, by decide, by decide⟩ rfl C126 (BA 126 (by simp)) C133 (BA 133 (by simp)) C204 (BA 204 (by simp)) C211 (BA 211 (by simp)) hT hsz (hides_get hls hl0) hI hz ?_
  intro h' gs' t' hb k hA
  refine q ⟨h', gs', d, t', os⟩ (hb (.of_eq hg)) ⟨fun b o e => ?_, fun b o e => ?_⟩ rfl
  · by_cases hm : b ∈ tabA
    · obtain ⟨ps, hp⟩ := hA b hm
      have e2 := (hT b hm).1
      rw [e] at e2
      cases e2
      have hc : ∃ c, CodeHd (hides h tabA) c b := by
        simp only [tabA, List.mem_cons, List.not_mem_nil, or_false] at hm
        rcases hm with rfl | rfl | rfl | rfl
        · exact ⟨_, C126⟩
        · exact ⟨_, C133⟩
        · exact ⟨_, C204⟩
        · exact ⟨_, C211⟩
      obtain ⟨cc, hc⟩ := hc
      exact .inr (.inl ⟨((hc.keeps hidesSub).tab e).isCodeTable, rfl, #[], ps, rfl, by rw [Array.empty_append]; exact hp⟩)
    · exact .inl (k _ _ (hides_get e hm))
  · by_cases hm : b ∈ tabA
    · obtain ⟨ps, hp⟩ := hA b hm
      exact ⟨_, hp⟩
    · exact ⟨o, k _ _ (hides_get e hm)⟩
end
end Mine
end
-- L26
section
namespace Mine
theorem fragOf_in (h : Heap) : ∀ as, (fragOf h as).In h
  | [] => fun zz zz e => nomatch e
  | a :: r => by
    intro b o e
    unfold fragOf at e
    set_option tactic.hygienic true in split at e
    · rename_i x hx
      rw [List.lookup_cons] at e
      cases hb : b == a with
      | true => rw [hb] at e; cases e; rw [eq_of_beq hb]; exact hx
      | false => rw [hb] at e; exact fragOf_in h r b o e
    · exact fragOf_in h r b o e
theorem fragOf_none (h : Heap) {b : Addr} : ∀ as, b ∉ as → (fragOf h as).lookup b = none
  | [], _ => rfl
  | a :: r, hn => by
    unfold fragOf
    have h1 : b ≠ a := fun e => hn (e ▸ .head _)
    have h2 := fragOf_none h r fun m => hn (.tail _ m)
    split
    · rw [List.lookup_cons, show (b == a) = false from beq_eq_false_iff_ne.mpr h1]; exact h2
    · exact h2
theorem fn_of {o : Obj} {name qual : Str} {ar : Arguments} {b : List Stmt} {sc : Scope} {clos : List (Str × Addr)} {dV kV : Value} {c : Addr} {ct : Value} (h : strip o = fo name qual ar b sc clos dV kV c ct .none) : ∃ pm, o = fo name qual ar b sc clos dV kV c ct pm := by
  obtain ⟨cl, di, da, sl⟩ := o
  cases da with
  | func f =>
    injection h with h1 h2 h3 h4
    obtain ⟨f0, f1, f2, f3, f4, f5, f6, f7, f8, f9, f10, f11, f12⟩ := f
    injection h3 with h3
    injection h3
    subst_vars
    exact ⟨_, rfl⟩
  | _ => injection h with h1 h2 h3 h4; cases h3
theorem fnk {K : Frag} {f : Addr} {name qual : Str} {ar : Arguments} {b : List Stmt} {sc : Scope} {clos : List (Str × Addr)} {dV kV : Value} {c : Addr} {ct : Value} (h : (K.lookup f).map strip = some (fo name qual ar b sc clos dV kV c ct .none)) (hc : codeIn K (.ref c) qual = true) :
    FnK K f name qual ar b sc clos dV kV c ct := by
  obtain ⟨o, ho, e⟩ := Option.map_eq_some_iff.mp h
  obtain ⟨pm, e⟩ := fn_of e
  exact ⟨⟨pm, by rw [ho, e]⟩, hc⟩
theorem nthEq {α : Type} {l l' : List α} (e : l = l') (i : Nat) {a b : α} (h1 : l[i]? = some a) (h2 : l'[i]? = some b) : a = b := Option.some.inj (h1.symm.trans (e ▸ h2))
theorem clsO_eq {o : Option Obj} {a : List Value} {b c d : Bool} {q : Str} (e : clsO o = some (a, b, c, d, q)) : ∃ oc od cd sl, o = some ⟨oc, od, .cls cd, sl⟩ ∧ cd.mro = a ∧ cd.hasDict = b ∧ cd.abstract = c ∧ cd.hasDel = d ∧ cd.qualname = q := by
  unfold clsO at e
  split at e
  · injection e with e
    injection e with e1 e
    injection e with e2 e
    injection e with e3 e
    injection e with e4 e5
    exact ⟨_, _, _, _, rfl, e1, e2, e3, e4, e5⟩
  · cases e
theorem strO_eq {o : Option Value} {s : Str} (e : strO o = some s) : ∃ t, o = some (.str s t) := by
  unfold strO at e
  split at e
  · cases e; exact ⟨_, rfl⟩
  · cases e
theorem fld2_eq {o : Option Obj} {s : Str} (e : fld2 o = some s) : ∃ oc od vs sl tf, o = some ⟨oc, od, .fields vs, sl⟩ ∧ vs[2]? = some (.str s tf) := by
  unfold fld2 at e
  split at e
  · obtain ⟨t, e⟩ := strO_eq e; exact ⟨_, _, _, _, t, rfl, e⟩
  · cases e
theorem allF {K : Frag} (y : obsK K = valK) : AllF K ∧ nsIn K mainGlobals "law" = some (some (.ref 214)) := by
  have yN : oN K = vN := congrArg (·.1) y
  have yM : oM K = vM := congrArg (·.2.1) y
  have yF : oF K = vF := congrArg (·.2.2.1) y
  have yB : oB K = vB := congrArg (·.2.2.2.1) y
  have yT : oT K = vT := congrArg (·.2.2.2.2.1) y
  have yR : oR K = vR := congrArg (·.2.2.2.2.2.1) y
  have yS : oS K = vS := congrArg (·.2.2.2.2.2.2.1) y
  have yC : clsO (K.lookup 164) = clsV := congrArg (·.2.2.2.2.2.2.2.1) y
  have yL : (K.lookup 88).map (·.data) = some (.cell (some (.ref 164))) := congrArg (·.2.2.2.2.2.2.2.2.1) y
  have y1 : oP1 K = vP1 := congrArg (·.2.2.2.2.2.2.2.2.2.1) y
  have y2 : oP2 K = vP2 := congrArg (·.2.2.2.2.2.2.2.2.2.2) y
  have p1 := fun S pm v1 v2 v3 v4 v5 => congrFun (congrFun (congrFun (congrFun (congrFun (congrFun (congrFun y1 S) pm) v1) v2) v3) v4) v5
  have p2 := fun S pm x v => congrFun (congrFun (congrFun (congrFun y2 S) pm) x) v
  clear y y1 y2
  obtain ⟨oc, od, cd, sl, hC, c1, c2, c3, c4, c5⟩ := clsO_eq yC
  have hcl : clsIn K 164 = some cd := by unfold clsIn; rw [hC]
  have hcell : ∃ ocl ocd ocs, K.lookup 88 = some ⟨ocl, ocd, .cell (some (.ref 164)), ocs⟩ := by
    obtain ⟨⟨a, b, dd, c⟩, ho, e⟩ := Option.map_eq_some_iff.mp yL
    exact ⟨a, b, c, by rw [ho]; cases e; rfl⟩
  have sn : ∀ c, fld2 (K.lookup c) = some "/claim/cut.py" → SnK K c := fun c e => ⟨let ⟨a, b, vs, s, tf, h1, h2⟩ := fld2_eq e; ⟨a, b, vs, s, tf, h1, h2⟩, hcell, (nthEq yR 2 rfl rfl), (nthEq yN 31 rfl rfl)⟩
  have emp : ∃ te, nsIn K mainGlobals "EMPTYSTRING" = some (some (.str "" te)) := by
    obtain ⟨t, e⟩ := strO_eq (nthEq yS 3 rfl rfl : strO ((nsIn K mainGlobals "EMPTYSTRING").getD none) = some "")
    refine ⟨t, ?_⟩
    cases h : nsIn K mainGlobals "EMPTYSTRING" with
    | none => rw [h] at e; cases e
    | some v => rw [h] at e; exact congrArg some e
  have flg : FlgK K := ⟨(fnk (nthEq yF 4 rfl rfl) (nthEq yB 12 rfl rfl)), fun h X => kt_keyed_in X (nthEq yB 1 rfl rfl), (nthEq yN 10 rfl rfl), (nthEq yN 11 rfl rfl), (nthEq yN 12 rfl rfl)⟩
  have kb : ∀ {name qual : Str} {ar : Arguments} {b : List Stmt} {sc : Scope} {clos : List (Str × Addr)} {dV kV : Value} {c : Addr} {ct : Value} {args : Args} {binds : List (Str × Value)}, (∀ S pm, peek K S (bindArgs (fnX name qual ar b sc clos dV kV .none pm none (.ref c) ct) args) = some binds) → Bnd K name qual ar b sc clos dV kV c ct args binds := fun e s pm X => kp_binds X fun S => e S pm
  refine ⟨⟨⟨(nthEq yN 15 rfl rfl), (nthEq yN 13 rfl rfl), (nthEq yN 14 rfl rfl), (nthEq yN 16 rfl rfl), (nthEq yN 17 rfl rfl), (nthEq yN 11 rfl rfl), (nthEq yN 18 rfl rfl), (nthEq yN 19 rfl rfl), (nthEq yN 20 rfl rfl), (nthEq yN 21 rfl rfl), (nthEq yN 22 rfl rfl)⟩, ⟨(fnk (nthEq yF 0 rfl rfl) (nthEq yB 8 rfl rfl)), (nthEq yN 23 rfl rfl), ⟨(fnk (nthEq yF 1 rfl rfl) (nthEq yB 9 rfl rfl)), (fnk (nthEq yF 2 rfl rfl) (nthEq yB 10 rfl rfl)), (nthEq yN 0 rfl rfl), (nthEq yN 1 rfl rfl), (nthEq yN 2 rfl rfl), (nthEq yN 3 rfl rfl)⟩, (nthEq yN 24 rfl rfl), (fnk (nthEq yF 3 rfl rfl) (nthEq yB 11 rfl rfl)), (nthEq yN 25 rfl rfl), flg, (nthEq yN 5 rfl rfl), (nthEq yN 26 rfl rfl), (fnk (nthEq yF 5 rfl rfl) (nthEq yB 13 rfl rfl)), (nthEq yN 27 rfl rfl), (fnk (nthEq yF 6 rfl rfl) (nthEq yB 14 rfl rfl)), (nthEq yN 28 rfl rfl), (nthEq yN 29 rfl rfl), ?_, (nthEq yN 30 rfl rfl), ⟨(nthEq yM 5 rfl rfl), (nthEq yN 13 rfl rfl), (nthEq yN 14 rfl rfl), emp⟩⟩, ⟨(nthEq yM 19 rfl rfl), (nthEq yB 2 rfl rfl), (nthEq yM 20 rfl rfl), (nthEq yB 3 rfl rfl)⟩, (fnk (nthEq yF 20 rfl rfl) (nthEq yB 28 rfl rfl)), (nthEq yB 4 rfl rfl), (nthEq yB 5 rfl rfl), (nthEq yB 6 rfl rfl), (nthEq yB 7 rfl rfl)⟩, (nthEq yN 32 rfl rfl)⟩
  refine ⟨(fnk (nthEq yF 7 rfl rfl) (nthEq yB 15 rfl rfl)), ?_, (fnk (nthEq yF 8 rfl rfl) (nthEq yB 16 rfl rfl)), flg, (fnk (nthEq yF 9 rfl rfl) (nthEq yB 17 rfl rfl)), (fnk (nthEq yF 10 rfl rfl) (nthEq yB 18 rfl rfl)), (fnk (nthEq yF 11 rfl rfl) (nthEq yB 19 rfl rfl)), fun v1 v2 v3 v4 v5 => kb fun S pm => congrArg (·.1) (p1 S pm v1 v2 v3 v4 v5), fun v1 v2 v3 v4 v5 => kb fun S pm => congrArg (·.2) (p1 S pm v1 v2 v3 v4 v5), (nthEq yN 4 rfl rfl), (nthEq yN 5 rfl rfl), (nthEq yN 6 rfl rfl), (nthEq yN 7 rfl rfl), (nthEq yN 8 rfl rfl), (nthEq yN 9 rfl rfl)⟩
  exact {
    bd_init := fun x v => kb fun S pm => congrArg (·.2.2.1) (p2 S pm x v)
    bd_popf := fun x v => kb fun S pm => congrArg (·.2.2.2.1) (p2 S pm x v)
    bd_reset := fun x v => kb fun S pm => congrArg (·.2.2.2.2) (p2 S pm x v)
    cls := ⟨⟨cd, hcl, c1, c2⟩, (nthEq yR 0 rfl rfl), (nthEq yB 0 rfl rfl), (nthEq yM 6 rfl rfl), (nthEq yM 7 rfl rfl), (nthEq yM 8 rfl rfl), (nthEq yM 9 rfl rfl), (nthEq yM 10 rfl rfl), (nthEq yM 11 rfl rfl), (nthEq yM 12 rfl rfl)⟩
    sup := ⟨fun M h X => looks_opaque X (nthEq yM 0 rfl rfl), (nthEq yM 2 rfl rfl), (nthEq yM 3 rfl rfl), (nthEq yM 4 rfl rfl), (nthEq yT 6 rfl rfl), (nthEq yR 1 rfl rfl), ⟨cd, hcl, c5⟩⟩
    new := ⟨fun M h X => Looks.of_peek X (congrArg (·.1) (p2 _ .none .none .none)), fun M h X => Looks.of_peek X (congrArg (·.2.1) (p2 _ .none .none .none)), ⟨oc, od, cd, sl, hC, c3, c4, by rw [c1]; rfl⟩, (nthEq yR 2 rfl rfl), (nthEq yR 3 rfl rfl), (nthEq yM 1 rfl rfl), (nthEq yM 18 rfl rfl), (nthEq yT 5 rfl rfl)⟩
    taker := (nthEq yM 5 rfl rfl)
    init := (fnk (nthEq yF 12 rfl rfl) (nthEq yB 20 rfl rfl))
    sinit := sn 100 (nthEq yS 0 rfl rfl)
    push := (fnk (nthEq yF 13 rfl rfl) (nthEq yB 21 rfl rfl))
    popf := (fnk (nthEq yF 14 rfl rfl) (nthEq yB 22 rfl rfl))
    pop := (fnk (nthEq yF 15 rfl rfl) (nthEq yB 23 rfl rfl))
    spop := sn 123 (nthEq yS 1 rfl rfl)
    len := (fnk (nthEq yF 16 rfl rfl) (nthEq yB 24 rfl rfl))
    str := (fnk (nthEq yF 17 rfl rfl) (nthEq yB 25 rfl rfl))
    reset := (fnk (nthEq yF 18 rfl rfl) (nthEq yB 26 rfl rfl))
    count := (fnk (nthEq yF 19 rfl rfl) (nthEq yB 27 rfl rfl))
    scount := sn 160 (nthEq yS 2 rfl rfl)
    f_push := ⟨(nthEq yM 13 rfl rfl), (nthEq yT 0 rfl rfl)⟩
    f_popf := ⟨(nthEq yM 14 rfl rfl), (nthEq yT 1 rfl rfl)⟩
    f_pop := ⟨(nthEq yM 15 rfl rfl), (nthEq yT 2 rfl rfl)⟩
    f_reset := ⟨(nthEq yM 16 rfl rfl), (nthEq yT 3 rfl rfl)⟩
    f_count := ⟨(nthEq yM 17 rfl rfl), (nthEq yT 4 rfl rfl)⟩
    f_append := (nthEq yT 7 rfl rfl) }
theorem tab_of {h : Heap} (e : tabA.map h.get? = List.replicate 4 (some (tabObj #[]))) : ∀ P ∈ tabA, h.get? P = some (tabObj #[]) :=
  fa_cons (nthEq e 0 rfl rfl) (fa_cons (nthEq e 1 rfl rfl) (fa_cons (nthEq e 2 rfl rfl) (fa_cons (nthEq e 3 rfl rfl) fa_nil)))
theorem tab_off : ∀ P ∈ tabA, P ∉ kAs := by decide
theorem map2 {α β γ : Type} {o : Option α} {f : α → β} {g : α → γ} {x : β} {y : γ} (h1 : o.map f = some x) (h2 : o.map g = some y) : o.map (fun s => (f s, g s)) = some (x, y) := by
  cases o with
  | none => cases h1
  | some s => cases h1; cases h2; rfl
end Mine
end
open PySem.W.X PySem.W.ZRun

set_option maxHeartbeats 0 in
theorem PySem.Challenge.cw_wa0021_01_holds : PySem.Challenge.rw_wa0021_01.Holds := by
  w_on
  refine holds_law (by kernel_rfl) fun said => ?_
  refine holds_openX (q := Mine.viewP) (loose := ["COMPILER_FLAG_NAMES", "UNKNOWN", "bisect_right", "bisect_left", "_Accumulator"]) (Xt := fun s => xlAt Mine.viewP [] s && recOk (RowW.records PySem.Challenge.rw_wa0021_01.row.toRowW) s) (XP := XL Mine.viewP [])
    (Yf := fun s => (Mine.obsK (Mine.fragOf s.heap Mine.kAs), Mine.tabA.map s.heap.get?, s.heap.objs.size)) (Ya := fun _ => (Mine.valK, List.replicate 4 (some (tabObj #[])), 215)) (N := 2946) ?hl (fun s e => xl_of s (Bool.and_eq_true_iff.mp e).1) XL.keeps (by rfl) (by rfl) (by rfl) (fun s e => recFacts_of (Bool.and_eq_true_iff.mp e).2) (by rfl) (by first | assumption | decide +kernel) (by decide +kernel) ⟨rfl, rfl, rfl, rfl, rfl, by decide +kernel⟩ ?hw ?hc
  case hw => w_witness2
  case hl =>
    exact LeftO.of_split "special-get-raises" fun w => Mine.map2 (Mine.halfF w) (Mine.halfT w)
  case hc =>
    intro w s₀ s₁ mg mb G y fa o pm cd doc dV kV ho hd hcd hD hmg hg args vals as L hpre hlay hrd hwl hlo
    have KX : (Mine.fragOf s₀.heap Mine.kAs).In s₁.heap := fun a o e => Laid.keeps L _ _ (Mine.fragOf_in _ _ a o e)
    have AF := Mine.allF (congrArg (·.1) y)
    have TB : Mine.tabA.map s₀.heap.get? = List.replicate 4 (some (tabObj #[])) := congrArg (·.2.1) y
    have ZN : s₀.heap.objs.size = 215 := congrArg (·.2.2) y
    clear y
    refine Ground.open G ?_
    intro T B D TE TW
    wrow_args hpre hlay hrd hwl hlo
    obtain ⟨hat, hsz⟩ := script_at L
    rw [ZN] at hat hsz
    subst hat
    have e := mg_of KX T.g AF.2
    have ef : Value.ref 214 = Value.ref fa := Option.some.inj (e.symm.trans hmg)
    injection ef with ef
    subst ef
    all_lens
    all_goals (z_lists L; z_lens)
    rename IntsAre _ _ => hII
    rename Heap.IsList _ _ _ => hLL
    have hol := script_obj L hLL
    clear hd hcd hD hmg
    have tb : ∀ P ∈ Mine.tabA, s₁.heap.get? P = some (tabObj #[]) := fun P hP => Laid.keeps L _ _ (Mine.tab_of TB P hP)
    refine Mine.law_close (ls := 215) T KX (fun P hP => Mine.fragOf_none _ _ (Mine.tab_off P hP)) AF.1 tb ?csz (by decide) hol hII ?chz hg ?cq
    case csz => rw [hsz]; decide
    case chz => lia
    case cq =>
      intro s' h1 h2 h3
      refine ⟨.inl ⟨.bool true, .bool true, [], rfl, fun _ => rfl, .bool true, ?_, fun _ => ⟨.nil, fun _ h => nomatch h⟩⟩, h2, h3, h1⟩
      kernel_rfl

import PyProof.Rows.All
import Wide.All
import OpenK.AllK
import Wide.FinOn
import Open.Tops
import PyProof.IsiH_list
import PySem.Challenge.RW_tc0088_01
namespace Mine
set_option Elab.async false
set_option compiler.extract_closed false
section
open PySem PySem.W PyProof.Rows
/-- the main program's own surroundings -/
noncomputable def env1 : Env := { scope := PySem.Challenge.pw_tc0088_01.main.scope, locals := mainNs, globals := mainNs, cells := [], code := .ref 13, frame := some 14 }
-- OM
theorem om_mv : 0 < 377 + 411 := by decide
theorem pl_ne (L i j : Nat) (h : Nat.beq i j = false) : L + i ≠ L + j := fun e => Nat.ne_of_beq_eq_false h (Nat.add_left_cancel e)
theorem pl_lt {L x : Nat} (k n : Nat) (hk : Nat.ble k n = true) (h : L + n < x) : L + k < x := Nat.lt_of_le_of_lt (Nat.add_le_add_left (Nat.le_of_ble_eq_true hk) L) h
theorem om_pos (n : Nat) : 0 < n + 1 := Nat.succ_pos n
theorem om_posl {n : Nat} (m : Nat) (h : 0 < n) : 0 < n + m := Nat.lt_of_lt_of_le h (Nat.le_add_right n m)
theorem room_a {a k n lim : Nat} (h : a + n < lim) (hk : Nat.ble k n = true) : a + k < lim := Nat.lt_of_le_of_lt (Nat.add_le_add_left (Nat.le_of_ble_eq_true hk) a) h
theorem room_b {a j k n lim : Nat} (h : a + n < lim) (hk : Nat.ble (j + k) n = true) : a + j + k < lim := by rw [Nat.add_assoc]; exact room_a h hk
theorem room_c {a n lim : Nat} (h : a + n < lim) : a < lim := Nat.lt_of_le_of_lt (Nat.le_add_right a n) h
theorem om_le {a n m : Nat} (h : a ≤ n) (hk : Nat.ble n m = true) : a ≤ m := Nat.le_trans h (Nat.le_of_ble_eq_true hk)
theorem om_lt {a n m : Nat} (h : a < n) (hk : Nat.ble n m = true) : a < m := Nat.lt_of_lt_of_le h (Nat.le_of_ble_eq_true hk)
theorem om_lel {a n m : Nat} (h : a ≤ n) (hk : Nat.blt n m = true) : a < m := Nat.lt_of_le_of_lt h (Nat.le_of_ble_eq_true hk)
theorem om_z0 (k : Nat) : ((0 : Int) + (k : Int)).toNat = k := by omega
theorem om_z1 (k : Nat) : (0 : Int) ≤ 0 + (k : Int) := by omega
theorem om_z2 (k : Nat) : ((1 : Int) + (k : Int)).toNat = k + 1 := by omega
theorem om_z3 (k : Nat) : (0 : Int) ≤ (k : Int) := by omega
theorem om_z4 (k : Nat) : -2 ^ 63 ≤ (0 : Int) + (k : Int) := by omega
theorem om_z5 (k : Nat) : -2 ^ 62 ≤ (0 : Int) + (k : Int) := by omega
theorem om_il {a b : Int} (h : a < b) : a < b := h
theorem om_ie {a b : Int} (h : a ≤ b) : a ≤ b := h
theorem om_lit {a b : Nat} (h : Nat.ble a b = true) : a ≤ b := Nat.le_of_ble_eq_true h
theorem om_addl {a b n m N : Nat} (h : a ≤ n) (k : b ≤ m) (hk : Nat.ble (n + m) N = true) : a + b ≤ N := Nat.le_trans (Nat.add_le_add h k) (Nat.le_of_ble_eq_true hk)
theorem tl_app {x y : PySem.Str} {n m : Nat} (hx : x.length ≤ n) (hy : y.length ≤ m) : (x ++ y).length ≤ n + m := Nat.le_trans (fact_append x y).1 (Nat.add_le_add hx hy)
theorem tl_slice {x : PySem.Str} {i j : Option Int} {n : Nat} (hx : x.length ≤ n) : (Txt.slice x i j).length ≤ n := Nat.le_trans (Txt.slice_le x i j) hx
theorem tl_one (c : Nat) : (PySem.Str.mk #[c]).length ≤ 1 := Nat.le_refl 1
theorem tl_eq {x : PySem.Str} {n : Nat} (h : x.length = n) : x.length ≤ n := Nat.le_of_eq h
theorem om_n (n : Nat) : 0 + n = n := Nat.zero_add n
theorem lk_1 (L : Nat) : L < L + 1 := Nat.lt_add_of_pos_right (n := L) (k := 1) (Nat.succ_pos _)
theorem lf_1 {L x : Nat} (h : L + 1 + 1 + 1 + 1 + 1 + 1 + 1 + 1 + 1 + 1 < x) : L + 1 < x := pl_lt 1 10 rfl h
theorem lf_2 {L x : Nat} (h : L + 1 + 1 + 1 + 1 + 1 + 1 + 1 + 1 + 1 + 1 < x) : L + 1 + 1 < x := pl_lt 2 10 rfl h
theorem lf_3 {L x : Nat} (h : L + 1 + 1 + 1 + 1 + 1 + 1 + 1 + 1 + 1 + 1 < x) : L + 1 + 1 + 1 < x := pl_lt 3 10 rfl h
theorem lf_4 {L x : Nat} (h : L + 1 + 1 + 1 + 1 + 1 + 1 + 1 + 1 + 1 + 1 < x) : L + 1 + 1 + 1 + 1 < x := pl_lt 4 10 rfl h
theorem lf_5 {L x : Nat} (h : L + 1 + 1 + 1 + 1 + 1 + 1 + 1 + 1 + 1 + 1 < x) : L + 1 + 1 + 1 + 1 + 1 < x := pl_lt 5 10 rfl h
theorem lf_6 {L x : Nat} (h : L + 1 + 1 + 1 + 1 + 1 + 1 + 1 + 1 + 1 + 1 < x) : L + 1 + 1 + 1 + 1 + 1 + 1 < x := pl_lt 6 10 rfl h
theorem lf_7 {L x : Nat} (h : L + 1 + 1 + 1 + 1 + 1 + 1 + 1 + 1 + 1 + 1 < x) : L + 1 + 1 + 1 + 1 + 1 + 1 + 1 < x := pl_lt 7 10 rfl h
theorem lf_8 {L x : Nat} (h : L + 1 + 1 + 1 + 1 + 1 + 1 + 1 + 1 + 1 + 1 < x) : L + 1 + 1 + 1 + 1 + 1 + 1 + 1 + 1 < x := pl_lt 8 10 rfl h
theorem lf_9 {L x : Nat} (h : L + 1 + 1 + 1 + 1 + 1 + 1 + 1 + 1 + 1 + 1 < x) : L + 1 + 1 + 1 + 1 + 1 + 1 + 1 + 1 + 1 < x := pl_lt 9 10 rfl h
theorem lf_10 {L x : Nat} (h : L + 1 + 1 + 1 + 1 + 1 + 1 + 1 + 1 + 1 + 1 < x) : L + 1 + 1 + 1 + 1 + 1 + 1 + 1 + 1 + 1 + 1 < x := pl_lt 10 10 rfl h
theorem c_1_2 {L : Nat} : L + 1 ≠ L + 1 + 1 := pl_ne L 1 2 rfl
theorem c_1_3 {L : Nat} : L + 1 ≠ L + 1 + 1 + 1 := pl_ne L 1 3 rfl
theorem c_1_4 {L : Nat} : L + 1 ≠ L + 1 + 1 + 1 + 1 := pl_ne L 1 4 rfl
theorem c_1_5 {L : Nat} : L + 1 ≠ L + 1 + 1 + 1 + 1 + 1 := pl_ne L 1 5 rfl
theorem c_1_6 {L : Nat} : L + 1 ≠ L + 1 + 1 + 1 + 1 + 1 + 1 := pl_ne L 1 6 rfl
theorem c_1_7 {L : Nat} : L + 1 ≠ L + 1 + 1 + 1 + 1 + 1 + 1 + 1 := pl_ne L 1 7 rfl
theorem c_1_8 {L : Nat} : L + 1 ≠ L + 1 + 1 + 1 + 1 + 1 + 1 + 1 + 1 := pl_ne L 1 8 rfl
theorem c_1_9 {L : Nat} : L + 1 ≠ L + 1 + 1 + 1 + 1 + 1 + 1 + 1 + 1 + 1 := pl_ne L 1 9 rfl
theorem c_1_10 {L : Nat} : L + 1 ≠ L + 1 + 1 + 1 + 1 + 1 + 1 + 1 + 1 + 1 + 1 := pl_ne L 1 10 rfl
theorem an_0 { g b : Prop} (h : g ∧ b) : g := h.1
theorem an_1 {a0 g b : Prop} (h : a0 ∧ g ∧ b) : g := h.2.1
theorem an_2 {a0 a1 g b : Prop} (h : a0 ∧ a1 ∧ g ∧ b) : g := h.2.2.1
theorem an_3 {a0 a1 a2 g b : Prop} (h : a0 ∧ a1 ∧ a2 ∧ g ∧ b) : g := h.2.2.2.1
theorem an_4 {a0 a1 a2 a3 g b : Prop} (h : a0 ∧ a1 ∧ a2 ∧ a3 ∧ g ∧ b) : g := h.2.2.2.2.1
theorem an_5 {a0 a1 a2 a3 a4 g b : Prop} (h : a0 ∧ a1 ∧ a2 ∧ a3 ∧ a4 ∧ g ∧ b) : g := h.2.2.2.2.2.1
theorem an_6 {a0 a1 a2 a3 a4 a5 g b : Prop} (h : a0 ∧ a1 ∧ a2 ∧ a3 ∧ a4 ∧ a5 ∧ g ∧ b) : g := h.2.2.2.2.2.2.1
theorem an_7 {a0 a1 a2 a3 a4 a5 a6 g b : Prop} (h : a0 ∧ a1 ∧ a2 ∧ a3 ∧ a4 ∧ a5 ∧ a6 ∧ g ∧ b) : g := h.2.2.2.2.2.2.2.1
end
section
open PySem PySem.W PySem.Calls PyProof.Rows
set_option maxHeartbeats 4000000
theorem and_i {a b : Bool} (h : a = true) (k : b = true) : (a && b) = true := by rw [h, k]; rfl
theorem said_ok : PySem.Challenge.rw_tc0088_01.wellSaid = true := by
  unfold OpenLaw.wellSaid
  repeat' with_reducible refine and_i ?_ ?_
  all_goals first | (unfold OpenRow.wellSaid OpenRow.partSaid looksOpen; repeat' with_reducible refine and_i ?_ ?_) | skip
  all_goals decide +kernel
end
local macro_rules | `(tactic| walk_at "mine.lt") => `(tactic| first | assumption | exact lk_1 _ | exact an_0 (by assumption) | exact an_1 (by assumption) | exact an_2 (by assumption) | exact an_3 (by assumption) | exact an_4 (by assumption) | exact an_5 (by assumption) | exact an_6 (by assumption) | exact an_7 (by assumption) | exact lf_1 (by assumption) | exact lf_2 (by assumption) | exact lf_3 (by assumption) | exact lf_4 (by assumption) | exact lf_5 (by assumption) | exact lf_6 (by assumption) | exact lf_7 (by assumption) | exact lf_8 (by assumption) | exact lf_9 (by assumption) | exact lf_10 (by assumption) | fail)
local macro_rules | `(tactic| walk_at "mine.txt") => `(tactic| first | assumption | exact tl_one _ | (refine tl_app ?_ ?_ <;> walk_at "mine.txt") | (refine tl_slice ?_; walk_at "mine.txt") | exact tl_eq (by assumption) | fail)
local macro_rules | `(tactic| omega) => `(tactic| ((fail_if_success (with_reducible exact om_mv)); first | (with_reducible first | exact om_pos _ | exact om_posl _ (by assumption) | exact room_a (by assumption) (by with_unfolding_all rfl) | exact room_b (by assumption) (by with_unfolding_all rfl) | exact room_c (by assumption) | exact om_z0 _ | exact om_z1 _ | exact om_z2 _ | exact om_z3 _ | exact om_z4 _ | exact om_z5 _ | exact om_n _ | walk_at "mine.lt" | (refine Nat.ne_of_lt ?_; walk_at "mine.lt") | (refine Nat.ne_of_gt ?_; walk_at "mine.lt") | exact om_il (by decide) | exact om_ie (by decide) | exact Nat.zero_le _ | exact om_lit (by with_unfolding_all rfl) | exact om_le (by assumption) (by with_unfolding_all rfl) | exact om_lt (by assumption) (by with_unfolding_all rfl) | exact om_lel (by assumption) (by with_unfolding_all rfl) | exact om_addl (by walk_at "mine.txt") (by walk_at "mine.txt") (by with_unfolding_all rfl) | fail) | lia | fail))
section
open PySem PySem.W PyProof.Rows
set_option linter.unusedVariables false
noncomputable def stm (i : Nat) : Stmt := PySem.Challenge.pw_tc0088_01.main.body.getD i (.Pass default)
noncomputable def clsBody (x : Stmt) : List Stmt := @PySem.Stmt.casesOn (fun _ => List Stmt) x (fun _ _ _ _ _ _ _ _ _ _ => []) (fun _ _ _ _ _ _ _ _ _ _ => []) (fun _ _ _ z _ _ _ _ _ _ _ => z) (fun _ _ => []) (fun _ _ => []) (fun _ _ _ => []) (fun _ _ _ _ _ _ _ => []) (fun _ _ _ _ => []) (fun _ _ _ _ _ => []) (fun _ _ _ _ _ => []) (fun _ _ _ _ _ => []) (fun _ _ _ _ => []) (fun _ _ _ _ => []) (fun _ _ _ => []) (fun _ _ _ => []) (fun _ _ _ => []) (fun _ _ _ => []) (fun _ _ _ _ _ => []) (fun _ _ _ _ _ => []) (fun _ _ _ => []) (fun _ _ => []) (fun _ _ _ _ => []) (fun _ _ => []) (fun _ _ => []) (fun _ _ => []) (fun _ => []) (fun _ => []) (fun _ => [])
noncomputable def cst (j : Nat) : Stmt := (clsBody (stm 2)).getD j (.Pass default)
noncomputable def dPar (x : Stmt) : Arguments := @PySem.Stmt.casesOn (fun _ => Arguments) x (fun _ z _ _ _ _ _ _ _ _ => z) (fun _ _ _ _ _ _ _ _ _ _ => default) (fun _ _ _ _ _ _ _ _ _ _ _ => default) (fun _ _ => default) (fun _ _ => default) (fun _ _ _ => default) (fun _ _ _ _ _ _ _ => default) (fun _ _ _ _ => default) (fun _ _ _ _ _ => default) (fun _ _ _ _ _ => default) (fun _ _ _ _ _ => default) (fun _ _ _ _ => default) (fun _ _ _ _ => default) (fun _ _ _ => default) (fun _ _ _ => default) (fun _ _ _ => default) (fun _ _ _ => default) (fun _ _ _ _ _ => default) (fun _ _ _ _ _ => default) (fun _ _ _ => default) (fun _ _ => default) (fun _ _ _ _ => default) (fun _ _ => default) (fun _ _ => default) (fun _ _ => default) (fun _ => default) (fun _ => default) (fun _ => default)
noncomputable def dBody (x : Stmt) : List Stmt := @PySem.Stmt.casesOn (fun _ => List Stmt) x (fun _ _ z _ _ _ _ _ _ _ => z) (fun _ _ _ _ _ _ _ _ _ _ => []) (fun _ _ _ _ _ _ _ _ _ _ _ => []) (fun _ _ => []) (fun _ _ => []) (fun _ _ _ => []) (fun _ _ _ _ _ _ _ => []) (fun _ _ _ _ => []) (fun _ _ _ _ _ => []) (fun _ _ _ _ _ => []) (fun _ _ _ _ _ => []) (fun _ _ _ _ => []) (fun _ _ _ _ => []) (fun _ _ _ => []) (fun _ _ _ => []) (fun _ _ _ => []) (fun _ _ _ => []) (fun _ _ _ _ _ => []) (fun _ _ _ _ _ => []) (fun _ _ _ => []) (fun _ _ => []) (fun _ _ _ _ => []) (fun _ _ => []) (fun _ _ => []) (fun _ _ => []) (fun _ => []) (fun _ => []) (fun _ => [])
noncomputable def dScope (x : Stmt) : Scope := @PySem.Stmt.casesOn (fun _ => Scope) x (fun _ _ _ _ _ _ z _ _ _ => z) (fun _ _ _ _ _ _ _ _ _ _ => default) (fun _ _ _ _ _ _ _ _ _ _ _ => default) (fun _ _ => default) (fun _ _ => default) (fun _ _ _ => default) (fun _ _ _ _ _ _ _ => default) (fun _ _ _ _ => default) (fun _ _ _ _ _ => default) (fun _ _ _ _ _ => default) (fun _ _ _ _ _ => default) (fun _ _ _ _ => default) (fun _ _ _ _ => default) (fun _ _ _ => default) (fun _ _ _ => default) (fun _ _ _ => default) (fun _ _ _ => default) (fun _ _ _ _ _ => default) (fun _ _ _ _ _ => default) (fun _ _ _ => default) (fun _ _ => default) (fun _ _ _ _ => default) (fun _ _ => default) (fun _ _ => default) (fun _ _ => default) (fun _ => default) (fun _ => default) (fun _ => default)
@[reducible] noncomputable def en (P : Params) (x : String) (t : Nat) (v : Value) : DictEntry := ⟨PyData.keyHash P (.ofString x), .str (.ofString x) t, v⟩
@[reducible] noncomputable def fnC (n q : String) (s : Stmt) : Obj := ⟨.none, none, .func { name := .ofString n, qualname := .ofString q, params := dPar s, body := .stmts (dBody s), scope := dScope s, globals := 0, closure := [], defaults := .none, kwdefaults := .none }, #[]⟩
@[reducible] noncomputable def fnO (n q : String) (s : Stmt) (pm code : Value) : Obj := ⟨.type "function", none, .func { name := .ofString n, qualname := .ofString q, params := dPar s, body := .stmts (dBody s), scope := dScope s, globals := 3, closure := [], defaults := .none, kwdefaults := .none, pyModule := pm, code := code }, #[]⟩

noncomputable def o9 (P : Params) : Obj := ⟨(.type "code"), none, (.fields #[(.str (.ofString "<module>") 176), (.str (.ofString "<module>") 177), (.str (.ofString "/claim/cut.py") 178), (.int 1 0), (.int 0 0), (.int 0 0), (.int 0 0), (.int 0 0), (.ref 7), (.bool false), (.int 175 0), (.ref 8), .none, .none, .none, .none, (.int 179 0), (.int 1 0), (.str (.ofString "/claim/cut.py") 180)]), #[]⟩
noncomputable def o10 (P : Params) : Obj := ⟨(.type "frame"), none, .plain, #[(some (.ref 9)), (some (.ref 3)), (some (.ref 3)), none, (some (.str (.ofString "__main__") 164)), none, (some (.ref 0))]⟩
noncomputable def o11 (P : Params) : Obj := ⟨(.type "tuple"), none, (.seq #[] 0), #[]⟩
noncomputable def o12 (P : Params) : Obj := ⟨.none, none, (.fields #[(.int 1 0), (.int 0 0), (.ref 20), (.int 5 0), (.int 0 0), (.ref 27), (.int 53 0), (.int 0 0), (.ref 93), (.int 58 0), (.int 0 0), (.ref 100), (.int 64 0), (.int 0 0), (.ref 107), (.int 67 0), (.int 0 0), (.ref 114), (.int 72 0), (.int 0 0), (.ref 132), (.int 75 0), (.int 0 0), (.ref 178), (.int 81 0), (.int 0 0), (.ref 185), (.int 83 0), (.int 0 0), (.ref 192), (.int 94 0), (.int 0 0), (.ref 199), (.int 113 0), (.int 0 0), (.ref 206), (.int 124 0), (.int 0 0), (.ref 213), (.int 137 0), (.int 0 0), (.ref 220), (.int 155 0), (.int 0 0), (.ref 225), (.int 158 0), (.int 0 0), (.ref 232), (.int 161 0), (.int 0 0), (.ref 239), (.int 168 0), (.int 0 0), (.ref 246), (.int 177 0), (.int 0 0), (.ref 251), (.int 189 0), (.int 0 0), (.ref 256), (.int 191 0), (.int 0 0), (.ref 263), (.int 196 0), (.int 0 0), (.ref 270), (.int 200 0), (.int 0 0), (.ref 275), (.int 209 0), (.int 0 0), (.ref 280)]), #[]⟩
noncomputable def o13 (P : Params) : Obj := ⟨(.type "code"), none, (.fields #[(.str (.ofString "<module>") 182), (.str (.ofString "<module>") 183), (.str (.ofString "/claim/cut.py") 184), (.int 1 0), (.int 0 0), (.int 0 0), (.int 0 0), (.int 0 0), (.ref 11), (.bool false), (.int 181 0), (.ref 12), .none, .none, .none, .none, (.int 185 0), (.int 1 0), (.str (.ofString "/claim/cut.py") 186)]), #[]⟩
noncomputable def o14 (P : Params) : Obj := ⟨(.type "frame"), none, .plain, #[(some (.ref 13)), (some (.ref 3)), (some (.ref 3)), none, (some (.str (.ofString "__main__") 164)), none, (some (.ref 0))]⟩
noncomputable def o15 (P : Params) : Obj := ⟨(.type "tuple"), none, (.seq #[] 0), #[]⟩
noncomputable def o16 (P : Params) : Obj := ⟨.none, none, (.fields #[]), #[]⟩
noncomputable def o17 (P : Params) : Obj := ⟨(.type "tuple"), none, (.seq #[(.str (.ofString "k") 190)] 0), #[]⟩
noncomputable def o18 (P : Params) : Obj := ⟨(.type "tuple"), none, (.seq #[] 0), #[]⟩
noncomputable def o19 (P : Params) : Obj := fnC "_wall" "_wall" (stm 0)
noncomputable def o20 (P : Params) : Obj := ⟨(.type "code"), none, (.fields #[(.str (.ofString "_wall") 187), (.str (.ofString "_wall") 188), (.str (.ofString "/claim/cut.py") 189), (.int 1 0), (.int 1 0), (.int 0 0), (.int 0 0), (.int 3 0), (.ref 15), (.bool true), (.int 181 0), (.ref 16), .none, (.ref 17), (.ref 18), (.ref 19), (.int 191 0), (.int 1 0), (.str (.ofString "/claim/cut.py") 192)]), #[]⟩
noncomputable def o21 (P : Params) : Obj := fnO "_wall" "_wall" (stm 0) (.str (.ofString "__main__") 164) (.ref 20)
noncomputable def o22 (P : Params) : Obj := ⟨(.type "tuple"), none, (.seq #[] 0), #[]⟩
noncomputable def o23 (P : Params) : Obj := ⟨(.type "builtin_function_or_method"), none, (.fields #[(.builtin "type.__prepare__"), (.type "type")]), #[]⟩
noncomputable def o24 (P : Params) : Obj := ⟨(.type "dict"), none, (.dict #[en P "__module__" 203 (.str (.ofString "cpy313.tabnanny") 194), en P "__qualname__" 205 (.str (.ofString "Whitespace") 204), en P "__firstlineno__" 207 (.int 5 206), en P "S" 211 (.str (.ofString " ") 209), en P "T" 212 (.str (.ofString "\t") 210), en P "__init__" 227 (.ref 38), en P "longest_run_of_spaces" 234 (.ref 45), en P "indent_level" 246 (.ref 52), en P "equal" 254 (.ref 59), en P "not_equal_witness" 262 (.ref 66), en P "less" 270 (.ref 73), en P "not_less_witness" 278 (.ref 80), en P "__static_attributes__" 284 (.ref 81)] 13), #[]⟩
noncomputable def o25 (P : Params) : Obj := ⟨(.type "tuple"), none, (.seq #[] 0), #[]⟩
noncomputable def o26 (P : Params) : Obj := ⟨.none, none, (.fields #[(.int 8 0), (.int 4 0), (.ref 37), (.int 31 0), (.int 4 0), (.ref 44), (.int 34 0), (.int 4 0), (.ref 51), (.int 41 0), (.int 4 0), (.ref 58), (.int 44 0), (.int 4 0), (.ref 65), (.int 47 0), (.int 4 0), (.ref 72), (.int 50 0), (.int 4 0), (.ref 79)]), #[]⟩
noncomputable def o27 (P : Params) : Obj := ⟨(.type "code"), none, (.fields #[(.str (.ofString "Whitespace") 198), (.str (.ofString "Whitespace") 199), (.str (.ofString "/claim/cut.py") 200), (.int 5 0), (.int 0 0), (.int 0 0), (.int 0 0), (.int 0 0), (.ref 25), (.bool false), (.int 181 0), (.ref 26), .none, .none, .none, .none, (.int 201 0), (.int 5 0), (.str (.ofString "/claim/cut.py") 202)]), #[]⟩
noncomputable def o28 (P : Params) : Obj := ⟨(.type "frame"), none, .plain, #[(some (.ref 27)), (some (.ref 3)), (some (.ref 24)), none, (some (.str (.ofString "cpy313.tabnanny") 194)), none, (some (.ref 0))]⟩
noncomputable def o29 (P : Params) : Obj := ⟨(.type "str_ascii_iterator"), none, (.fields #[.none, (.int 2 0)]), #[]⟩
noncomputable def o30 (P : Params) : Obj := ⟨(.type "tuple"), none, (.seq #[] 0), #[]⟩
noncomputable def o31 (P : Params) : Obj := ⟨(.type "StopIteration"), none, (.fields #[(.ref 30), .none, .none, .none, (.bool false), .none]), #[]⟩
noncomputable def o32 (P : Params) : Obj := ⟨(.type "tuple"), none, (.seq #[] 0), #[]⟩
noncomputable def o33 (P : Params) : Obj := ⟨.none, none, (.fields #[]), #[]⟩
noncomputable def o34 (P : Params) : Obj := ⟨(.type "tuple"), none, (.seq #[(.str (.ofString "self") 216), (.str (.ofString "ws") 217), (.str (.ofString "S") 218), (.str (.ofString "T") 219), (.str (.ofString "count") 220), (.str (.ofString "b") 221), (.str (.ofString "n") 222), (.str (.ofString "nt") 223), (.str (.ofString "ch") 224)] 0), #[]⟩
noncomputable def o35 (P : Params) : Obj := ⟨(.type "tuple"), none, (.seq #[] 0), #[]⟩
noncomputable def o36 (P : Params) : Obj := fnC "__init__" "Whitespace.__init__" (cst 1)
noncomputable def o37 (P : Params) : Obj := ⟨(.type "code"), none, (.fields #[(.str (.ofString "__init__") 213), (.str (.ofString "Whitespace.__init__") 214), (.str (.ofString "/claim/cut.py") 215), (.int 8 0), (.int 2 0), (.int 0 0), (.int 0 0), (.int 3 0), (.ref 32), (.bool true), (.int 181 0), (.ref 33), .none, (.ref 34), (.ref 35), (.ref 36), (.int 225 0), (.int 8 0), (.str (.ofString "/claim/cut.py") 226)]), #[]⟩
noncomputable def o38 (P : Params) : Obj := fnO "__init__" "Whitespace.__init__" (cst 1) (.str (.ofString "cpy313.tabnanny") 194) (.ref 37)
noncomputable def o39 (P : Params) : Obj := ⟨(.type "tuple"), none, (.seq #[] 0), #[]⟩
noncomputable def o40 (P : Params) : Obj := ⟨.none, none, (.fields #[]), #[]⟩
noncomputable def o41 (P : Params) : Obj := ⟨(.type "tuple"), none, (.seq #[(.str (.ofString "self") 231)] 0), #[]⟩
noncomputable def o42 (P : Params) : Obj := ⟨(.type "tuple"), none, (.seq #[] 0), #[]⟩
noncomputable def o43 (P : Params) : Obj := fnC "longest_run_of_spaces" "Whitespace.longest_run_of_spaces" (cst 2)
noncomputable def o44 (P : Params) : Obj := ⟨(.type "code"), none, (.fields #[(.str (.ofString "longest_run_of_spaces") 228), (.str (.ofString "Whitespace.longest_run_of_spaces") 229), (.str (.ofString "/claim/cut.py") 230), (.int 31 0), (.int 1 0), (.int 0 0), (.int 0 0), (.int 3 0), (.ref 39), (.bool true), (.int 181 0), (.ref 40), .none, (.ref 41), (.ref 42), (.ref 43), (.int 232 0), (.int 31 0), (.str (.ofString "/claim/cut.py") 233)]), #[]⟩
noncomputable def o45 (P : Params) : Obj := fnO "longest_run_of_spaces" "Whitespace.longest_run_of_spaces" (cst 2) (.str (.ofString "cpy313.tabnanny") 194) (.ref 44)
noncomputable def o46 (P : Params) : Obj := ⟨(.type "tuple"), none, (.seq #[] 0), #[]⟩
noncomputable def o47 (P : Params) : Obj := ⟨.none, none, (.fields #[]), #[]⟩
noncomputable def o48 (P : Params) : Obj := ⟨(.type "tuple"), none, (.seq #[(.str (.ofString "self") 238), (.str (.ofString "tabsize") 239), (.str (.ofString "count") 240), (.str (.ofString "trailing") 241), (.str (.ofString "il") 242), (.str (.ofString "i") 243)] 0), #[]⟩
noncomputable def o49 (P : Params) : Obj := ⟨(.type "tuple"), none, (.seq #[] 0), #[]⟩
noncomputable def o50 (P : Params) : Obj := fnC "indent_level" "Whitespace.indent_level" (cst 3)
noncomputable def o51 (P : Params) : Obj := ⟨(.type "code"), none, (.fields #[(.str (.ofString "indent_level") 235), (.str (.ofString "Whitespace.indent_level") 236), (.str (.ofString "/claim/cut.py") 237), (.int 34 0), (.int 2 0), (.int 0 0), (.int 0 0), (.int 3 0), (.ref 46), (.bool true), (.int 181 0), (.ref 47), .none, (.ref 48), (.ref 49), (.ref 50), (.int 244 0), (.int 34 0), (.str (.ofString "/claim/cut.py") 245)]), #[]⟩
noncomputable def o52 (P : Params) : Obj := fnO "indent_level" "Whitespace.indent_level" (cst 3) (.str (.ofString "cpy313.tabnanny") 194) (.ref 51)
noncomputable def o53 (P : Params) : Obj := ⟨(.type "tuple"), none, (.seq #[] 0), #[]⟩
noncomputable def o54 (P : Params) : Obj := ⟨.none, none, (.fields #[]), #[]⟩
noncomputable def o55 (P : Params) : Obj := ⟨(.type "tuple"), none, (.seq #[(.str (.ofString "self") 250), (.str (.ofString "other") 251)] 0), #[]⟩
noncomputable def o56 (P : Params) : Obj := ⟨(.type "tuple"), none, (.seq #[] 0), #[]⟩
noncomputable def o57 (P : Params) : Obj := fnC "equal" "Whitespace.equal" (cst 4)
noncomputable def o58 (P : Params) : Obj := ⟨(.type "code"), none, (.fields #[(.str (.ofString "equal") 247), (.str (.ofString "Whitespace.equal") 248), (.str (.ofString "/claim/cut.py") 249), (.int 41 0), (.int 2 0), (.int 0 0), (.int 0 0), (.int 3 0), (.ref 53), (.bool true), (.int 181 0), (.ref 54), .none, (.ref 55), (.ref 56), (.ref 57), (.int 252 0), (.int 41 0), (.str (.ofString "/claim/cut.py") 253)]), #[]⟩
noncomputable def o59 (P : Params) : Obj := fnO "equal" "Whitespace.equal" (cst 4) (.str (.ofString "cpy313.tabnanny") 194) (.ref 58)
noncomputable def o60 (P : Params) : Obj := ⟨(.type "tuple"), none, (.seq #[] 0), #[]⟩
noncomputable def o61 (P : Params) : Obj := ⟨.none, none, (.fields #[]), #[]⟩
noncomputable def o62 (P : Params) : Obj := ⟨(.type "tuple"), none, (.seq #[(.str (.ofString "self") 258), (.str (.ofString "other") 259)] 0), #[]⟩
noncomputable def o63 (P : Params) : Obj := ⟨(.type "tuple"), none, (.seq #[] 0), #[]⟩
noncomputable def o64 (P : Params) : Obj := fnC "not_equal_witness" "Whitespace.not_equal_witness" (cst 5)
noncomputable def o65 (P : Params) : Obj := ⟨(.type "code"), none, (.fields #[(.str (.ofString "not_equal_witness") 255), (.str (.ofString "Whitespace.not_equal_witness") 256), (.str (.ofString "/claim/cut.py") 257), (.int 44 0), (.int 2 0), (.int 0 0), (.int 0 0), (.int 3 0), (.ref 60), (.bool true), (.int 181 0), (.ref 61), .none, (.ref 62), (.ref 63), (.ref 64), (.int 260 0), (.int 44 0), (.str (.ofString "/claim/cut.py") 261)]), #[]⟩
noncomputable def o66 (P : Params) : Obj := fnO "not_equal_witness" "Whitespace.not_equal_witness" (cst 5) (.str (.ofString "cpy313.tabnanny") 194) (.ref 65)
noncomputable def o67 (P : Params) : Obj := ⟨(.type "tuple"), none, (.seq #[] 0), #[]⟩
noncomputable def o68 (P : Params) : Obj := ⟨.none, none, (.fields #[]), #[]⟩
noncomputable def o69 (P : Params) : Obj := ⟨(.type "tuple"), none, (.seq #[(.str (.ofString "self") 266), (.str (.ofString "other") 267)] 0), #[]⟩
noncomputable def o70 (P : Params) : Obj := ⟨(.type "tuple"), none, (.seq #[] 0), #[]⟩
noncomputable def o71 (P : Params) : Obj := fnC "less" "Whitespace.less" (cst 6)
noncomputable def o72 (P : Params) : Obj := ⟨(.type "code"), none, (.fields #[(.str (.ofString "less") 263), (.str (.ofString "Whitespace.less") 264), (.str (.ofString "/claim/cut.py") 265), (.int 47 0), (.int 2 0), (.int 0 0), (.int 0 0), (.int 3 0), (.ref 67), (.bool true), (.int 181 0), (.ref 68), .none, (.ref 69), (.ref 70), (.ref 71), (.int 268 0), (.int 47 0), (.str (.ofString "/claim/cut.py") 269)]), #[]⟩
noncomputable def o73 (P : Params) : Obj := fnO "less" "Whitespace.less" (cst 6) (.str (.ofString "cpy313.tabnanny") 194) (.ref 72)
noncomputable def o74 (P : Params) : Obj := ⟨(.type "tuple"), none, (.seq #[] 0), #[]⟩
noncomputable def o75 (P : Params) : Obj := ⟨.none, none, (.fields #[]), #[]⟩
noncomputable def o76 (P : Params) : Obj := ⟨(.type "tuple"), none, (.seq #[(.str (.ofString "self") 274), (.str (.ofString "other") 275)] 0), #[]⟩
noncomputable def o77 (P : Params) : Obj := ⟨(.type "tuple"), none, (.seq #[] 0), #[]⟩
noncomputable def o78 (P : Params) : Obj := fnC "not_less_witness" "Whitespace.not_less_witness" (cst 7)
noncomputable def o79 (P : Params) : Obj := ⟨(.type "code"), none, (.fields #[(.str (.ofString "not_less_witness") 271), (.str (.ofString "Whitespace.not_less_witness") 272), (.str (.ofString "/claim/cut.py") 273), (.int 50 0), (.int 2 0), (.int 0 0), (.int 0 0), (.int 3 0), (.ref 74), (.bool true), (.int 181 0), (.ref 75), .none, (.ref 76), (.ref 77), (.ref 78), (.int 276 0), (.int 50 0), (.str (.ofString "/claim/cut.py") 277)]), #[]⟩
noncomputable def o80 (P : Params) : Obj := fnO "not_less_witness" "Whitespace.not_less_witness" (cst 7) (.str (.ofString "cpy313.tabnanny") 194) (.ref 79)
noncomputable def o81 (P : Params) : Obj := ⟨(.type "tuple"), none, (.seq #[(.str (.ofString "is_simple") 279), (.str (.ofString "n") 280), (.str (.ofString "norm") 281), (.str (.ofString "nt") 282), (.str (.ofString "raw") 283)] 0), #[]⟩
noncomputable def o82 (P : Params) : Obj := ⟨(.type "dict"), none, (.dict #[en P "__module__" 203 (.str (.ofString "cpy313.tabnanny") 194), en P "__firstlineno__" 207 (.int 5 206), en P "S" 211 (.str (.ofString " ") 209), en P "T" 212 (.str (.ofString "\t") 210), en P "__init__" 227 (.ref 38), en P "longest_run_of_spaces" 234 (.ref 45), en P "indent_level" 246 (.ref 52), en P "equal" 254 (.ref 59), en P "not_equal_witness" 262 (.ref 66), en P "less" 270 (.ref 73), en P "not_less_witness" 278 (.ref 80), en P "__static_attributes__" 284 (.ref 81), en P "__dict__" 286 (.ref 84), en P "__weakref__" 288 (.ref 85), en P "__doc__" 289 .none] 4), #[]⟩
noncomputable def o83 (P : Params) : Obj := ⟨(.type "type"), none, (.cls { name := (.ofString "Whitespace"), bases := [(.type "object")], mro := [(.ref 83), (.type "object")], ns := 82, qualname := (.ofString "Whitespace") }), #[none, none, (some (.str (.ofString "Whitespace") 196)), (some (.str (.ofString "Whitespace") 204)), (some (.builtin "object.__new__")), (some (.bool true))]⟩
noncomputable def o84 (P : Params) : Obj := ⟨(.type "getset_descriptor"), none, (.fields #[(.str (.ofString "__dict__") 285), (.ref 83), (.builtin "function.__dict__"), (.builtin "function.__dict__#set")]), #[]⟩
noncomputable def o85 (P : Params) : Obj := ⟨(.type "getset_descriptor"), none, (.fields #[(.str (.ofString "__weakref__") 287), (.ref 83), (.builtin "ExceptionGroup.__weakref__"), .none]), #[]⟩
noncomputable def o86 (P : Params) : Obj := ⟨(.type "super"), none, (.fields #[(.ref 83), (.ref 83), (.ref 83)]), #[]⟩
noncomputable def o87 (P : Params) : Obj := ⟨(.type "builtin_function_or_method"), none, (.fields #[(.builtin "object.__init_subclass__"), (.ref 83)]), #[]⟩
noncomputable def o88 (P : Params) : Obj := ⟨(.type "tuple"), none, (.seq #[] 0), #[]⟩
noncomputable def o89 (P : Params) : Obj := ⟨.none, none, (.fields #[]), #[]⟩
noncomputable def o90 (P : Params) : Obj := ⟨(.type "tuple"), none, (.seq #[(.str (.ofString "a") 297), (.str (.ofString "b") 298), (.str (.ofString "msg") 299)] 0), #[]⟩
noncomputable def o91 (P : Params) : Obj := ⟨(.type "tuple"), none, (.seq #[] 0), #[]⟩
noncomputable def o92 (P : Params) : Obj := fnC "concat" "concat" (stm 4)
noncomputable def o93 (P : Params) : Obj := ⟨(.type "code"), none, (.fields #[(.str (.ofString "concat") 294), (.str (.ofString "concat") 295), (.str (.ofString "/claim/cut.py") 296), (.int 53 0), (.int 2 0), (.int 0 0), (.int 0 0), (.int 3 0), (.ref 88), (.bool true), (.int 181 0), (.ref 89), .none, (.ref 90), (.ref 91), (.ref 92), (.int 300 0), (.int 53 0), (.str (.ofString "/claim/cut.py") 301)]), #[]⟩
noncomputable def o94 (P : Params) : Obj := fnO "concat" "concat" (stm 4) (.str (.ofString "cpy313.operator") 292) (.ref 93)
noncomputable def o95 (P : Params) : Obj := ⟨(.type "tuple"), none, (.seq #[] 0), #[]⟩
noncomputable def o96 (P : Params) : Obj := ⟨.none, none, (.fields #[]), #[]⟩
noncomputable def o97 (P : Params) : Obj := ⟨(.type "tuple"), none, (.seq #[(.str (.ofString "a") 306), (.str (.ofString "b") 307), (.str (.ofString "count") 308), (.str (.ofString "i") 309)] 0), #[]⟩
noncomputable def o98 (P : Params) : Obj := ⟨(.type "tuple"), none, (.seq #[] 0), #[]⟩
noncomputable def o99 (P : Params) : Obj := fnC "countOf" "countOf" (stm 5)
noncomputable def o100 (P : Params) : Obj := ⟨(.type "code"), none, (.fields #[(.str (.ofString "countOf") 303), (.str (.ofString "countOf") 304), (.str (.ofString "/claim/cut.py") 305), (.int 58 0), (.int 2 0), (.int 0 0), (.int 0 0), (.int 3 0), (.ref 95), (.bool true), (.int 181 0), (.ref 96), .none, (.ref 97), (.ref 98), (.ref 99), (.int 310 0), (.int 58 0), (.str (.ofString "/claim/cut.py") 311)]), #[]⟩
noncomputable def o101 (P : Params) : Obj := fnO "countOf" "countOf" (stm 5) (.str (.ofString "cpy313.operator") 292) (.ref 100)
noncomputable def o102 (P : Params) : Obj := ⟨(.type "tuple"), none, (.seq #[] 0), #[]⟩
noncomputable def o103 (P : Params) : Obj := ⟨.none, none, (.fields #[]), #[]⟩
noncomputable def o104 (P : Params) : Obj := ⟨(.type "tuple"), none, (.seq #[(.str (.ofString "a") 316), (.str (.ofString "b") 317)] 0), #[]⟩
noncomputable def o105 (P : Params) : Obj := ⟨(.type "tuple"), none, (.seq #[] 0), #[]⟩
noncomputable def o106 (P : Params) : Obj := fnC "ifloordiv" "ifloordiv" (stm 6)
noncomputable def o107 (P : Params) : Obj := ⟨(.type "code"), none, (.fields #[(.str (.ofString "ifloordiv") 313), (.str (.ofString "ifloordiv") 314), (.str (.ofString "/claim/cut.py") 315), (.int 64 0), (.int 2 0), (.int 0 0), (.int 0 0), (.int 3 0), (.ref 102), (.bool true), (.int 181 0), (.ref 103), .none, (.ref 104), (.ref 105), (.ref 106), (.int 318 0), (.int 64 0), (.str (.ofString "/claim/cut.py") 319)]), #[]⟩
noncomputable def o108 (P : Params) : Obj := fnO "ifloordiv" "ifloordiv" (stm 6) (.str (.ofString "cpy313.operator") 292) (.ref 107)
noncomputable def o109 (P : Params) : Obj := ⟨(.type "tuple"), none, (.seq #[] 0), #[]⟩
noncomputable def o110 (P : Params) : Obj := ⟨.none, none, (.fields #[]), #[]⟩
noncomputable def o111 (P : Params) : Obj := ⟨(.type "tuple"), none, (.seq #[(.str (.ofString "a") 324), (.str (.ofString "b") 325)] 0), #[]⟩
noncomputable def o112 (P : Params) : Obj := ⟨(.type "tuple"), none, (.seq #[] 0), #[]⟩
noncomputable def o113 (P : Params) : Obj := fnC "isub" "isub" (stm 7)
noncomputable def o114 (P : Params) : Obj := ⟨(.type "code"), none, (.fields #[(.str (.ofString "isub") 321), (.str (.ofString "isub") 322), (.str (.ofString "/claim/cut.py") 323), (.int 67 0), (.int 2 0), (.int 0 0), (.int 0 0), (.int 3 0), (.ref 109), (.bool true), (.int 181 0), (.ref 110), .none, (.ref 111), (.ref 112), (.ref 113), (.int 326 0), (.int 67 0), (.str (.ofString "/claim/cut.py") 327)]), #[]⟩
noncomputable def o115 (P : Params) : Obj := fnO "isub" "isub" (stm 7) (.str (.ofString "cpy313.operator") 292) (.ref 114)
noncomputable def o116 (P : Params) : Obj := ⟨(.type "list"), none, (.seq #[(.int 173 331), (.int 847 332), (.int 6150 333), (.int 6155 334), (.int 6156 335), (.int 6157 336), (.int 8203 337), (.int 8204 338), (.int 8205 339), (.int 8288 340), (.int 65279 341)] 0), #[]⟩
noncomputable def o117 (P : Params) : Obj := ⟨(.type "range"), none, (.fields #[(.int 65024 342), (.int 65040 343), (.int 1 344)]), #[]⟩
noncomputable def o118 (P : Params) : Obj := ⟨(.type "list"), none, (.seq #[(.int 65024 347), (.int 65025 348), (.int 65026 349), (.int 65027 350), (.int 65028 351), (.int 65029 352), (.int 65030 353), (.int 65031 354), (.int 65032 355), (.int 65033 356), (.int 65034 357), (.int 65035 358), (.int 65036 359), (.int 65037 360), (.int 65038 361), (.int 65039 362)] 18), #[]⟩
noncomputable def o119 (P : Params) : Obj := ⟨(.type "range_iterator"), none, (.fields #[(.int 65040 0), (.int 0 0), (.int 1 0)]), #[]⟩
noncomputable def o120 (P : Params) : Obj := ⟨(.type "tuple"), none, (.seq #[] 0), #[]⟩
noncomputable def o121 (P : Params) : Obj := ⟨(.type "StopIteration"), none, (.fields #[(.ref 120), .none, .none, .none, (.bool false), .none]), #[]⟩
noncomputable def o122 (P : Params) : Obj := ⟨(.type "list"), none, (.seq #[(.int 173 331), (.int 847 332), (.int 6150 333), (.int 6155 334), (.int 6156 335), (.int 6157 336), (.int 8203 337), (.int 8204 338), (.int 8205 339), (.int 8288 340), (.int 65279 341), (.int 65024 347), (.int 65025 348), (.int 65026 349), (.int 65027 350), (.int 65028 351), (.int 65029 352), (.int 65030 353), (.int 65031 354), (.int 65032 355), (.int 65033 356), (.int 65034 357), (.int 65035 358), (.int 65036 359), (.int 65037 360), (.int 65038 361), (.int 65039 362)] 0), #[]⟩
noncomputable def o123 (P : Params) : Obj := ⟨(.type "set"), none, (.set #[(65024, (.int 65024 347)), (65025, (.int 65025 348)), (65026, (.int 65026 349)), (65027, (.int 65027 350)), (65028, (.int 65028 351)), (65029, (.int 65029 352)), (6150, (.int 6150 333)), (65030, (.int 65030 353)), (65031, (.int 65031 354)), (65032, (.int 65032 355)), (65033, (.int 65033 356)), (6155, (.int 6155 334)), (6156, (.int 6156 335)), (6157, (.int 6157 336)), (8203, (.int 8203 337)), (8204, (.int 8204 338)), (8205, (.int 8205 339)), (65034, (.int 65034 357)), (65035, (.int 65035 358)), (65036, (.int 65036 359)), (65037, (.int 65037 360)), (65038, (.int 65038 361)), (65039, (.int 65039 362)), (173, (.int 173 331)), (847, (.int 847 332)), (8288, (.int 8288 340)), (65279, (.int 65279 341))] 29 ⟨127, #[0, 1, 2, 3, 4, 5, 6, 7, 8, 9, 10, 11, 12, 13, 14, 15, 16, 17, 18, 19, 20, 21, 22, 45, 79, 96, 127], #[], 0, (!(P.followText "set-order")), 2, true⟩), #[]⟩
noncomputable def o124 (P : Params) : Obj := ⟨(.type "list_iterator"), none, (.fields #[.none, (.int 27 0)]), #[]⟩
noncomputable def o125 (P : Params) : Obj := ⟨(.type "tuple"), none, (.seq #[] 0), #[]⟩
noncomputable def o126 (P : Params) : Obj := ⟨(.type "StopIteration"), none, (.fields #[(.ref 125), .none, .none, .none, (.bool false), .none]), #[]⟩
noncomputable def o127 (P : Params) : Obj := ⟨(.type "tuple"), none, (.seq #[] 0), #[]⟩
noncomputable def o128 (P : Params) : Obj := ⟨.none, none, (.fields #[]), #[]⟩
noncomputable def o129 (P : Params) : Obj := ⟨(.type "tuple"), none, (.seq #[(.str (.ofString "code") 394)] 0), #[]⟩
noncomputable def o130 (P : Params) : Obj := ⟨(.type "tuple"), none, (.seq #[] 0), #[]⟩
noncomputable def o131 (P : Params) : Obj := fnC "in_table_b1" "in_table_b1" (stm 10)
noncomputable def o132 (P : Params) : Obj := ⟨(.type "code"), none, (.fields #[(.str (.ofString "in_table_b1") 391), (.str (.ofString "in_table_b1") 392), (.str (.ofString "/claim/cut.py") 393), (.int 72 0), (.int 1 0), (.int 0 0), (.int 0 0), (.int 3 0), (.ref 127), (.bool true), (.int 181 0), (.ref 128), .none, (.ref 129), (.ref 130), (.ref 131), (.int 395 0), (.int 72 0), (.str (.ofString "/claim/cut.py") 396)]), #[]⟩
noncomputable def o133 (P : Params) : Obj := fnO "in_table_b1" "in_table_b1" (stm 10) (.str (.ofString "cpy313.stringprep") 329) (.ref 132)
noncomputable def o173 (P : Params) : Obj := ⟨(.type "tuple"), none, (.seq #[] 0), #[]⟩
noncomputable def o174 (P : Params) : Obj := ⟨.none, none, (.fields #[]), #[]⟩
noncomputable def o175 (P : Params) : Obj := ⟨(.type "tuple"), none, (.seq #[(.str (.ofString "code") 2352), (.str (.ofString "r") 2353)] 0), #[]⟩
noncomputable def o176 (P : Params) : Obj := ⟨(.type "tuple"), none, (.seq #[] 0), #[]⟩
noncomputable def o177 (P : Params) : Obj := fnC "map_table_b3" "map_table_b3" (stm 12)
noncomputable def o178 (P : Params) : Obj := ⟨(.type "code"), none, (.fields #[(.str (.ofString "map_table_b3") 2349), (.str (.ofString "map_table_b3") 2350), (.str (.ofString "/claim/cut.py") 2351), (.int 75 0), (.int 1 0), (.int 0 0), (.int 0 0), (.int 3 0), (.ref 173), (.bool true), (.int 181 0), (.ref 174), .none, (.ref 175), (.ref 176), (.ref 177), (.int 2354 0), (.int 75 0), (.str (.ofString "/claim/cut.py") 2355)]), #[]⟩
noncomputable def o179 (P : Params) : Obj := fnO "map_table_b3" "map_table_b3" (stm 12) (.str (.ofString "cpy313.stringprep") 329) (.ref 178)
noncomputable def o180 (P : Params) : Obj := ⟨(.type "tuple"), none, (.seq #[] 0), #[]⟩
noncomputable def o181 (P : Params) : Obj := ⟨.none, none, (.fields #[]), #[]⟩
noncomputable def o182 (P : Params) : Obj := ⟨(.type "tuple"), none, (.seq #[(.str (.ofString "text") 2362)] 0), #[]⟩
noncomputable def o183 (P : Params) : Obj := ⟨(.type "tuple"), none, (.seq #[] 0), #[]⟩
noncomputable def o184 (P : Params) : Obj := fnC "_raise_serialization_error" "_raise_serialization_error" (stm 14)
noncomputable def o185 (P : Params) : Obj := ⟨(.type "code"), none, (.fields #[(.str (.ofString "_raise_serialization_error") 2359), (.str (.ofString "_raise_serialization_error") 2360), (.str (.ofString "/claim/cut.py") 2361), (.int 81 0), (.int 1 0), (.int 0 0), (.int 0 0), (.int 3 0), (.ref 180), (.bool true), (.int 181 0), (.ref 181), .none, (.ref 182), (.ref 183), (.ref 184), (.int 2363 0), (.int 81 0), (.str (.ofString "/claim/cut.py") 2364)]), #[]⟩
noncomputable def o186 (P : Params) : Obj := fnO "_raise_serialization_error" "_raise_serialization_error" (stm 14) (.str (.ofString "cpy313.xml.etree.ElementTree") 2357) (.ref 185)
noncomputable def o187 (P : Params) : Obj := ⟨(.type "tuple"), none, (.seq #[] 0), #[]⟩
noncomputable def o188 (P : Params) : Obj := ⟨.none, none, (.fields #[]), #[]⟩
noncomputable def o189 (P : Params) : Obj := ⟨(.type "tuple"), none, (.seq #[(.str (.ofString "text") 2369)] 0), #[]⟩
noncomputable def o190 (P : Params) : Obj := ⟨(.type "tuple"), none, (.seq #[] 0), #[]⟩
noncomputable def o191 (P : Params) : Obj := fnC "_escape_cdata" "_escape_cdata" (stm 15)
noncomputable def o192 (P : Params) : Obj := ⟨(.type "code"), none, (.fields #[(.str (.ofString "_escape_cdata") 2366), (.str (.ofString "_escape_cdata") 2367), (.str (.ofString "/claim/cut.py") 2368), (.int 83 0), (.int 1 0), (.int 0 0), (.int 0 0), (.int 3 0), (.ref 187), (.bool true), (.int 181 0), (.ref 188), .none, (.ref 189), (.ref 190), (.ref 191), (.int 2370 0), (.int 83 0), (.str (.ofString "/claim/cut.py") 2371)]), #[]⟩
noncomputable def o193 (P : Params) : Obj := fnO "_escape_cdata" "_escape_cdata" (stm 15) (.str (.ofString "cpy313.xml.etree.ElementTree") 2357) (.ref 192)
noncomputable def o194 (P : Params) : Obj := ⟨(.type "tuple"), none, (.seq #[] 0), #[]⟩
noncomputable def o195 (P : Params) : Obj := ⟨.none, none, (.fields #[]), #[]⟩
noncomputable def o196 (P : Params) : Obj := ⟨(.type "tuple"), none, (.seq #[(.str (.ofString "text") 2376)] 0), #[]⟩
noncomputable def o197 (P : Params) : Obj := ⟨(.type "tuple"), none, (.seq #[] 0), #[]⟩
noncomputable def o198 (P : Params) : Obj := fnC "_escape_attrib" "_escape_attrib" (stm 16)
noncomputable def o199 (P : Params) : Obj := ⟨(.type "code"), none, (.fields #[(.str (.ofString "_escape_attrib") 2373), (.str (.ofString "_escape_attrib") 2374), (.str (.ofString "/claim/cut.py") 2375), (.int 94 0), (.int 1 0), (.int 0 0), (.int 0 0), (.int 3 0), (.ref 194), (.bool true), (.int 181 0), (.ref 195), .none, (.ref 196), (.ref 197), (.ref 198), (.int 2377 0), (.int 94 0), (.str (.ofString "/claim/cut.py") 2378)]), #[]⟩
noncomputable def o200 (P : Params) : Obj := fnO "_escape_attrib" "_escape_attrib" (stm 16) (.str (.ofString "cpy313.xml.etree.ElementTree") 2357) (.ref 199)
noncomputable def o201 (P : Params) : Obj := ⟨(.type "tuple"), none, (.seq #[] 0), #[]⟩
noncomputable def o202 (P : Params) : Obj := ⟨.none, none, (.fields #[]), #[]⟩
noncomputable def o203 (P : Params) : Obj := ⟨(.type "tuple"), none, (.seq #[(.str (.ofString "text") 2383)] 0), #[]⟩
noncomputable def o204 (P : Params) : Obj := ⟨(.type "tuple"), none, (.seq #[] 0), #[]⟩
noncomputable def o205 (P : Params) : Obj := fnC "_escape_attrib_html" "_escape_attrib_html" (stm 17)
noncomputable def o206 (P : Params) : Obj := ⟨(.type "code"), none, (.fields #[(.str (.ofString "_escape_attrib_html") 2380), (.str (.ofString "_escape_attrib_html") 2381), (.str (.ofString "/claim/cut.py") 2382), (.int 113 0), (.int 1 0), (.int 0 0), (.int 0 0), (.int 3 0), (.ref 201), (.bool true), (.int 181 0), (.ref 202), .none, (.ref 203), (.ref 204), (.ref 205), (.int 2384 0), (.int 113 0), (.str (.ofString "/claim/cut.py") 2385)]), #[]⟩
noncomputable def o207 (P : Params) : Obj := fnO "_escape_attrib_html" "_escape_attrib_html" (stm 17) (.str (.ofString "cpy313.xml.etree.ElementTree") 2357) (.ref 206)
noncomputable def o208 (P : Params) : Obj := ⟨(.type "tuple"), none, (.seq #[] 0), #[]⟩
noncomputable def o209 (P : Params) : Obj := ⟨.none, none, (.fields #[]), #[]⟩
noncomputable def o210 (P : Params) : Obj := ⟨(.type "tuple"), none, (.seq #[(.str (.ofString "text") 2390)] 0), #[]⟩
noncomputable def o211 (P : Params) : Obj := ⟨(.type "tuple"), none, (.seq #[] 0), #[]⟩
noncomputable def o212 (P : Params) : Obj := fnC "_escape_cdata_c14n" "_escape_cdata_c14n" (stm 18)
noncomputable def o213 (P : Params) : Obj := ⟨(.type "code"), none, (.fields #[(.str (.ofString "_escape_cdata_c14n") 2387), (.str (.ofString "_escape_cdata_c14n") 2388), (.str (.ofString "/claim/cut.py") 2389), (.int 124 0), (.int 1 0), (.int 0 0), (.int 0 0), (.int 3 0), (.ref 208), (.bool true), (.int 181 0), (.ref 209), .none, (.ref 210), (.ref 211), (.ref 212), (.int 2391 0), (.int 124 0), (.str (.ofString "/claim/cut.py") 2392)]), #[]⟩
noncomputable def o214 (P : Params) : Obj := fnO "_escape_cdata_c14n" "_escape_cdata_c14n" (stm 18) (.str (.ofString "cpy313.xml.etree.ElementTree") 2357) (.ref 213)
noncomputable def o215 (P : Params) : Obj := ⟨(.type "tuple"), none, (.seq #[] 0), #[]⟩
noncomputable def o216 (P : Params) : Obj := ⟨.none, none, (.fields #[]), #[]⟩
noncomputable def o217 (P : Params) : Obj := ⟨(.type "tuple"), none, (.seq #[(.str (.ofString "text") 2397)] 0), #[]⟩
noncomputable def o218 (P : Params) : Obj := ⟨(.type "tuple"), none, (.seq #[] 0), #[]⟩
noncomputable def o219 (P : Params) : Obj := fnC "_escape_attrib_c14n" "_escape_attrib_c14n" (stm 19)
noncomputable def o220 (P : Params) : Obj := ⟨(.type "code"), none, (.fields #[(.str (.ofString "_escape_attrib_c14n") 2394), (.str (.ofString "_escape_attrib_c14n") 2395), (.str (.ofString "/claim/cut.py") 2396), (.int 137 0), (.int 1 0), (.int 0 0), (.int 0 0), (.int 3 0), (.ref 215), (.bool true), (.int 181 0), (.ref 216), .none, (.ref 217), (.ref 218), (.ref 219), (.int 2398 0), (.int 137 0), (.str (.ofString "/claim/cut.py") 2399)]), #[]⟩
noncomputable def o221 (P : Params) : Obj := fnO "_escape_attrib_c14n" "_escape_attrib_c14n" (stm 19) (.str (.ofString "cpy313.xml.etree.ElementTree") 2357) (.ref 220)
noncomputable def o222 (P : Params) : Obj := ⟨(.type "tuple"), none, (.seq #[] 0), #[]⟩
noncomputable def o223 (P : Params) : Obj := ⟨.none, none, (.fields #[]), #[]⟩
noncomputable def o224 (P : Params) : Obj := fnC "_law_heaps" "_law_heaps" (stm 21)
noncomputable def o225 (P : Params) : Obj := ⟨(.type "code"), none, (.fields #[(.str (.ofString "_law_heaps") 2403), (.str (.ofString "_law_heaps") 2404), (.str (.ofString "/claim/cut.py") 2405), (.int 155 0), (.int 1 0), (.int 0 0), (.int 0 0), (.int 3 0), (.ref 222), (.bool true), (.int 181 0), (.ref 223), .none, .none, .none, (.ref 224), (.int 2406 0), (.int 155 0), (.str (.ofString "/claim/cut.py") 2407)]), #[]⟩
noncomputable def o226 (P : Params) : Obj := fnO "_law_heaps" "_law_heaps" (stm 21) (.str (.ofString "law_tc0088_01") 2401) (.ref 225)
noncomputable def o227 (P : Params) : Obj := ⟨(.type "tuple"), none, (.seq #[] 0), #[]⟩
noncomputable def o228 (P : Params) : Obj := ⟨.none, none, (.fields #[]), #[]⟩
noncomputable def o229 (P : Params) : Obj := ⟨(.type "tuple"), none, (.seq #[(.str (.ofString "place") 2412), (.str (.ofString "codes") 2413)] 0), #[]⟩
noncomputable def o230 (P : Params) : Obj := ⟨(.type "tuple"), none, (.seq #[] 0), #[]⟩
noncomputable def o231 (P : Params) : Obj := fnC "_law_unseen" "_law_unseen" (stm 22)
noncomputable def o232 (P : Params) : Obj := ⟨(.type "code"), none, (.fields #[(.str (.ofString "_law_unseen") 2409), (.str (.ofString "_law_unseen") 2410), (.str (.ofString "/claim/cut.py") 2411), (.int 158 0), (.int 1 0), (.int 0 0), (.int 0 0), (.int 3 0), (.ref 227), (.bool true), (.int 181 0), (.ref 228), .none, (.ref 229), (.ref 230), (.ref 231), (.int 2414 0), (.int 158 0), (.str (.ofString "/claim/cut.py") 2415)]), #[]⟩
noncomputable def o233 (P : Params) : Obj := fnO "_law_unseen" "_law_unseen" (stm 22) (.str (.ofString "law_tc0088_01") 2401) (.ref 232)
noncomputable def o234 (P : Params) : Obj := ⟨(.type "tuple"), none, (.seq #[] 0), #[]⟩
noncomputable def o235 (P : Params) : Obj := ⟨.none, none, (.fields #[]), #[]⟩
noncomputable def o236 (P : Params) : Obj := ⟨(.type "tuple"), none, (.seq #[(.str (.ofString "form") 2420), (.str (.ofString "alphabets") 2421)] 0), #[]⟩
noncomputable def o237 (P : Params) : Obj := ⟨(.type "tuple"), none, (.seq #[] 0), #[]⟩
noncomputable def o238 (P : Params) : Obj := fnC "_law_letter" "_law_letter" (stm 23)
noncomputable def o239 (P : Params) : Obj := ⟨(.type "code"), none, (.fields #[(.str (.ofString "_law_letter") 2417), (.str (.ofString "_law_letter") 2418), (.str (.ofString "/claim/cut.py") 2419), (.int 161 0), (.int 1 0), (.int 0 0), (.int 0 0), (.int 3 0), (.ref 234), (.bool true), (.int 181 0), (.ref 235), .none, (.ref 236), (.ref 237), (.ref 238), (.int 2422 0), (.int 161 0), (.str (.ofString "/claim/cut.py") 2423)]), #[]⟩
noncomputable def o240 (P : Params) : Obj := fnO "_law_letter" "_law_letter" (stm 23) (.str (.ofString "law_tc0088_01") 2401) (.ref 239)
noncomputable def o241 (P : Params) : Obj := ⟨(.type "tuple"), none, (.seq #[] 0), #[]⟩
noncomputable def o242 (P : Params) : Obj := ⟨.none, none, (.fields #[]), #[]⟩
noncomputable def o243 (P : Params) : Obj := ⟨(.type "tuple"), none, (.seq #[(.str (.ofString "hand") 2428), (.str (.ofString "names") 2429)] 0), #[]⟩
noncomputable def o244 (P : Params) : Obj := ⟨(.type "tuple"), none, (.seq #[] 0), #[]⟩
noncomputable def o245 (P : Params) : Obj := fnC "_law_names" "_law_names" (stm 24)
noncomputable def o246 (P : Params) : Obj := ⟨(.type "code"), none, (.fields #[(.str (.ofString "_law_names") 2425), (.str (.ofString "_law_names") 2426), (.str (.ofString "/claim/cut.py") 2427), (.int 168 0), (.int 1 0), (.int 0 0), (.int 0 0), (.int 3 0), (.ref 241), (.bool true), (.int 181 0), (.ref 242), .none, (.ref 243), (.ref 244), (.ref 245), (.int 2430 0), (.int 168 0), (.str (.ofString "/claim/cut.py") 2431)]), #[]⟩
noncomputable def o247 (P : Params) : Obj := fnO "_law_names" "_law_names" (stm 24) (.str (.ofString "law_tc0088_01") 2401) (.ref 246)
noncomputable def o248 (P : Params) : Obj := ⟨(.type "tuple"), none, (.seq #[] 0), #[]⟩
noncomputable def o249 (P : Params) : Obj := ⟨.none, none, (.fields #[]), #[]⟩
noncomputable def o250 (P : Params) : Obj := fnC "_law_pile" "_law_pile" (stm 25)
noncomputable def o251 (P : Params) : Obj := ⟨(.type "code"), none, (.fields #[(.str (.ofString "_law_pile") 2433), (.str (.ofString "_law_pile") 2434), (.str (.ofString "/claim/cut.py") 2435), (.int 177 0), (.int 2 0), (.int 0 0), (.int 0 0), (.int 3 0), (.ref 248), (.bool true), (.int 181 0), (.ref 249), .none, .none, .none, (.ref 250), (.int 2436 0), (.int 177 0), (.str (.ofString "/claim/cut.py") 2437)]), #[]⟩
noncomputable def o252 (P : Params) : Obj := fnO "_law_pile" "_law_pile" (stm 25) (.str (.ofString "law_tc0088_01") 2401) (.ref 251)
noncomputable def o253 (P : Params) : Obj := ⟨(.type "tuple"), none, (.seq #[] 0), #[]⟩
noncomputable def o254 (P : Params) : Obj := ⟨.none, none, (.fields #[]), #[]⟩
noncomputable def o255 (P : Params) : Obj := fnC "_law_line" "_law_line" (stm 26)
noncomputable def o256 (P : Params) : Obj := ⟨(.type "code"), none, (.fields #[(.str (.ofString "_law_line") 2439), (.str (.ofString "_law_line") 2440), (.str (.ofString "/claim/cut.py") 2441), (.int 189 0), (.int 1 0), (.int 0 0), (.int 0 0), (.int 3 0), (.ref 253), (.bool true), (.int 181 0), (.ref 254), .none, .none, .none, (.ref 255), (.int 2442 0), (.int 189 0), (.str (.ofString "/claim/cut.py") 2443)]), #[]⟩
noncomputable def o257 (P : Params) : Obj := fnO "_law_line" "_law_line" (stm 26) (.str (.ofString "law_tc0088_01") 2401) (.ref 256)
noncomputable def o258 (P : Params) : Obj := ⟨(.type "tuple"), none, (.seq #[] 0), #[]⟩
noncomputable def o259 (P : Params) : Obj := ⟨.none, none, (.fields #[]), #[]⟩
noncomputable def o260 (P : Params) : Obj := ⟨(.type "tuple"), none, (.seq #[(.str (.ofString "due") 2448), (.str (.ofString "counts") 2449), (.str (.ofString "size") 2450)] 0), #[]⟩
noncomputable def o261 (P : Params) : Obj := ⟨(.type "tuple"), none, (.seq #[] 0), #[]⟩
noncomputable def o262 (P : Params) : Obj := fnC "_law_norm" "_law_norm" (stm 27)
noncomputable def o263 (P : Params) : Obj := ⟨(.type "code"), none, (.fields #[(.str (.ofString "_law_norm") 2445), (.str (.ofString "_law_norm") 2446), (.str (.ofString "/claim/cut.py") 2447), (.int 191 0), (.int 1 0), (.int 0 0), (.int 0 0), (.int 3 0), (.ref 258), (.bool true), (.int 181 0), (.ref 259), .none, (.ref 260), (.ref 261), (.ref 262), (.int 2451 0), (.int 191 0), (.str (.ofString "/claim/cut.py") 2452)]), #[]⟩
noncomputable def o264 (P : Params) : Obj := fnO "_law_norm" "_law_norm" (stm 27) (.str (.ofString "law_tc0088_01") 2401) (.ref 263)
noncomputable def o265 (P : Params) : Obj := ⟨(.type "tuple"), none, (.seq #[] 0), #[]⟩
noncomputable def o266 (P : Params) : Obj := ⟨.none, none, (.fields #[]), #[]⟩
noncomputable def o267 (P : Params) : Obj := ⟨(.type "tuple"), none, (.seq #[(.str (.ofString "lead") 2457), (.str (.ofString "line") 2458), (.str (.ofString "due") 2459), (.str (.ofString "least") 2460), (.str (.ofString "greatest") 2461)] 0), #[]⟩
noncomputable def o268 (P : Params) : Obj := ⟨(.type "tuple"), none, (.seq #[] 0), #[]⟩
noncomputable def o269 (P : Params) : Obj := fnC "_law_apart" "_law_apart" (stm 28)
noncomputable def o270 (P : Params) : Obj := ⟨(.type "code"), none, (.fields #[(.str (.ofString "_law_apart") 2454), (.str (.ofString "_law_apart") 2455), (.str (.ofString "/claim/cut.py") 2456), (.int 196 0), (.int 3 0), (.int 0 0), (.int 0 0), (.int 3 0), (.ref 265), (.bool true), (.int 181 0), (.ref 266), .none, (.ref 267), (.ref 268), (.ref 269), (.int 2462 0), (.int 196 0), (.str (.ofString "/claim/cut.py") 2463)]), #[]⟩
noncomputable def o271 (P : Params) : Obj := fnO "_law_apart" "_law_apart" (stm 28) (.str (.ofString "law_tc0088_01") 2401) (.ref 270)
noncomputable def o272 (P : Params) : Obj := ⟨(.type "tuple"), none, (.seq #[] 0), #[]⟩
noncomputable def o273 (P : Params) : Obj := ⟨.none, none, (.fields #[]), #[]⟩
noncomputable def o274 (P : Params) : Obj := fnC "_law_extra" "_law_extra" (stm 29)
noncomputable def o275 (P : Params) : Obj := ⟨(.type "code"), none, (.fields #[(.str (.ofString "_law_extra") 2465), (.str (.ofString "_law_extra") 2466), (.str (.ofString "/claim/cut.py") 2467), (.int 200 0), (.int 2 0), (.int 0 0), (.int 0 0), (.int 3 0), (.ref 272), (.bool true), (.int 181 0), (.ref 273), .none, .none, .none, (.ref 274), (.int 2468 0), (.int 200 0), (.str (.ofString "/claim/cut.py") 2469)]), #[]⟩
noncomputable def o276 (P : Params) : Obj := fnO "_law_extra" "_law_extra" (stm 29) (.str (.ofString "law_tc0088_01") 2401) (.ref 275)
noncomputable def o277 (P : Params) : Obj := ⟨(.type "tuple"), none, (.seq #[] 0), #[]⟩
noncomputable def o278 (P : Params) : Obj := ⟨.none, none, (.fields #[]), #[]⟩
noncomputable def o279 (P : Params) : Obj := fnC "law" "law" (stm 30)
noncomputable def o280 (P : Params) : Obj := ⟨(.type "code"), none, (.fields #[(.str (.ofString "law") 2471), (.str (.ofString "law") 2472), (.str (.ofString "/claim/cut.py") 2473), (.int 209 0), (.int 1 0), (.int 0 0), (.int 0 0), (.int 3 0), (.ref 277), (.bool true), (.int 181 0), (.ref 278), .none, .none, .none, (.ref 279), (.int 2474 0), (.int 209 0), (.str (.ofString "/claim/cut.py") 2475)]), #[]⟩
noncomputable def o281 (P : Params) : Obj := fnO "law" "law" (stm 30) (.str (.ofString "law_tc0088_01") 2401) (.ref 280)
noncomputable def o3 (P : Params) : Obj := ⟨(.type "dict"), none, (.dict #[en P "__name__" 165 (.str (.ofString "law_tc0088_01") 2401), en P "__doc__" 166 .none, en P "__package__" 167 .none, en P "__loader__" 168 (.builtin "__main__.__loader__#opaque"), en P "__spec__" 169 .none, en P "__annotations__" 170 (.ref 6), en P "__builtins__" 171 (.ref 4), en P "__file__" 173 (.str (.ofString "/claim/cut.py") 172), en P "__cached__" 174 .none, en P "_wall" 193 (.ref 21), en P "Whitespace" 291 (.ref 83), en P "concat" 302 (.ref 94), en P "countOf" 312 (.ref 101), en P "ifloordiv" 320 (.ref 108), en P "isub" 328 (.ref 115), en P "b1_set" 390 (.ref 123), en P "in_table_b1" 397 (.ref 133), en P "b3_exceptions" 2348 (.ref 134), en P "map_table_b3" 2356 (.ref 179), en P "_raise_serialization_error" 2365 (.ref 186), en P "_escape_cdata" 2372 (.ref 193), en P "_escape_attrib" 2379 (.ref 200), en P "_escape_attrib_html" 2386 (.ref 207), en P "_escape_cdata_c14n" 2393 (.ref 214), en P "_escape_attrib_c14n" 2400 (.ref 221), en P "_law_heaps" 2408 (.ref 226), en P "_law_unseen" 2416 (.ref 233), en P "_law_letter" 2424 (.ref 240), en P "_law_names" 2432 (.ref 247), en P "_law_pile" 2438 (.ref 252), en P "_law_line" 2444 (.ref 257), en P "_law_norm" 2453 (.ref 264), en P "_law_apart" 2464 (.ref 271), en P "_law_extra" 2470 (.ref 276), en P "law" 2476 (.ref 281)] 35), #[]⟩
end
section
open PySem PySem.W PySem.Calls PyProof.Rows
set_option linter.unusedVariables false
noncomputable abbrev pw : Program := PySem.Challenge.pw_tc0088_01
noncomputable def q0 : Pos := ⟨0, 0, 0, 0⟩
noncomputable abbrev cB (b : List Stmt) : Code := Code.body b Mine.env1
noncomputable abbrev sG (w : World) (n : Nat) (s : Shared) (t : Thread) : Option (Shared × Thread) := segGo treeTable pw w 11 (some (.ref 6)) 1 n s t
noncomputable abbrev sR (w : World) (n : Nat) (s : Shared) (t : Thread) := segRun treeTable pw w 11 (some (.ref 6)) 1 n s t
noncomputable abbrev th {α : Type} (t : Sem α) (b : List Stmt) (p : Pos) (K : α → Sem Fin) (H : Value → Sem Fin) (gd : Bool → Bool) (lv : List Value → List Value) : Thread := ⟨t.wrap K H gd lv, cB b, p, [topFrame q0]⟩

theorem segGo_add {tb : String → Option Builtin} {p : Program} {w : World} {n₀ : Nat} {ann : Option Value} {b : Nat} : ∀ {n k : Nat} {s s' : Shared} {t t' : Thread} {r : Shared × Thread},
    segGo tb p w n₀ ann b n s t = some (s', t') → segGo tb p w n₀ ann b k s' t' = some r → segGo tb p w n₀ ann b (n + k) s t = some r
  | 0, k, s, s', t, t', r, h, g => by
    obtain ⟨rfl, rfl⟩ : s = s' ∧ t = t' := by simpa [segGo] using h
    rw [Nat.zero_add]; exact g
  | n + 1, k, s, s', t, t', r, h, g => by
    rw [show n + 1 + k = n + k + 1 by omega]
    unfold segGo at h ⊢
    cases he : endAt b t with
    | some f => rw [he] at h; cases h
    | none =>
      rw [he] at h
      cases hk : stepOk n₀ ann t with
      | false => rw [hk] at h; cases h
      | true =>
        rw [hk] at h
        cases hs : step (denote tb) p w s t with
        | halt o s₂ => rw [hs] at h; cases h
        | go s₂ t₂ => rw [hs] at h; exact segGo_add h g

/-- a state that hangs on the world and the outside -/
noncomputable abbrev SW := World → OsState → Shared
/-- at the top's own level, in every world, the tree t goes from s to the value a and the state s', in so many steps -/
noncomputable def Ev {α : Type} (t : Sem α) (s : SW) (p : Pos) (a : α) (s' : SW) (p' : Pos) : Prop :=
  ∃ n, ∀ w os b K H gd lv, sG w n (s w os) (th t b p K H gd lv) = some (s' w os, ⟨K a, cB b, p', [topFrame q0]⟩)

section
variable {α β : Type} {s s1 s2 : SW} {p p1 p2 : Pos}
theorem ev_pure {a : α} : Ev (pure a : Sem α) s p a s p := ⟨0, fun _ _ _ _ _ _ _ => rfl⟩
theorem ev_bind {m : Sem α} {f : α → Sem β} {a : α} {c : β} (h : Ev m s p a s1 p1) (g : Ev (f a) s1 p1 c s2 p2) : Ev (m >>= f) s p c s2 p2 := by
  obtain ⟨n, hn⟩ := h
  obtain ⟨k, hk⟩ := g
  refine ⟨n + k, fun w os b K H gd lv => ?_⟩
  show sG w (n + k) (s w os) ⟨(m >>= f).wrap K H gd lv, cB b, p, [topFrame q0]⟩ = _
  rw [Sem.bind_eq_wrap', Sem.wrap_wrap]
  exact segGo_add (hn w os b _ _ _ _) (hk w os b K H gd lv)
theorem ev_keep {m : Sem α} {vs : List Value} {a : α} (h : Ev m s p a s1 p1) : Ev (m.keep vs) s p a s1 p1 := by
  obtain ⟨n, hn⟩ := h
  refine ⟨n, fun w os b K H gd lv => ?_⟩
  show sG w n (s w os) ⟨(m.keep vs).wrap K H gd lv, cB b, p, [topFrame q0]⟩ = _
  rw [Sem.keep_eq_wrap, Sem.wrap_wrap]
  exact hn w os b _ _ _ _
theorem ev_holding {m : Sem α} {vs : List Value} {a : α} (h : Ev m s p a s1 p1) : Ev (holding vs m) s p a s1 p1 := by
  unfold holding
  split
  · exact h
  · exact ev_keep h
theorem ev_onRaise {m : Sem α} {h : Value → Sem Unit} {a : α} (g : Ev m s p a s1 p1) : Ev (m.onRaise h) s p a s1 p1 := by
  obtain ⟨n, hn⟩ := g
  refine ⟨n, fun w os b K H gd lv => ?_⟩
  show sG w n (s w os) ⟨(m.onRaise h).wrap K H gd lv, cB b, p, [topFrame q0]⟩ = _
  rw [Sem.onRaise_eq_wrap, Sem.wrap_wrap]
  exact hn w os b _ _ _ _
theorem ev_rule {tag : String} : Ev (rule tag) s p () s p := ⟨1, fun w os _ _ _ _ _ => by generalize s w os = z; obtain ⟨h, g, d, k, o⟩ := z; rfl⟩
theorem ev_at {q : Pos} : Ev (standAt q) s p () s q := ⟨1, fun w os _ _ _ _ _ => by generalize s w os = z; obtain ⟨h, g, d, k, o⟩ := z; rfl⟩
theorem ev_fresh {h : World → OsState → Heap} {g : Array GenState} {d : Drawn} {k : Nat} : Ev fresh (fun w os => ⟨h w os, g, d, k, os⟩) p k (fun w os => ⟨h w os, g, d, k + 1, os⟩) p := ⟨1, fun _ _ _ _ _ _ _ => rfl⟩
theorem sG_one {w : World} {s s' : Shared} {t t' : Thread} (he : endAt 1 t = none) (hk : stepOk 11 (some (.ref 6)) t = true) (hs : step (denote treeTable) pw w s t = .go s' t') : sG w 1 s t = some (s', t') := by
  show segGo treeTable pw w 11 (some (.ref 6)) 1 1 s t = _
  unfold segGo
  rw [he, hk, hs]
  rfl
theorem ev_loadPart {a : Addr} {part : Option Value} {o : Obj} (h : ∀ w os, (s w os).heap.get? a = some o) : Ev (loadPart a part) s p o s p := ⟨1, fun w os b K H gd lv => sG_one rfl rfl (by
  have h' := h w os
  generalize s w os = z at h'
  obtain ⟨hp, g, d, k, os⟩ := z
  show step _ _ _ ⟨hp, g, d, k, os⟩ ⟨.load a part fun x => (Sem.pure x).wrap K H gd lv, _, _, _⟩ = _
  simp only at h'
  simp only [step, h', Sem.wrap])⟩
theorem ev_alloc {h : World → OsState → Heap} {g : Array GenState} {d : Drawn} {k : Nat} {o : Obj} {z : Nat} (hz : ∀ w os, (h w os).objs.size = z) : Ev (alloc o) (fun w os => ⟨h w os, g, d, k, os⟩) p z (fun w os => ⟨(h w os).push o, g, d, k, os⟩) p := ⟨1, fun w os b K H gd lv => sG_one rfl rfl (by
  show step _ _ _ ⟨h w os, g, d, k, os⟩ ⟨.alloc o fun x => (Sem.pure x).wrap K H gd lv, _, _, _⟩ = _
  simp only [step, hz w os, Sem.wrap])⟩
theorem ev_updatePart {h : World → OsState → Heap} {g : Array GenState} {d : Drawn} {k : Nat} {a : Addr} {part : Option Value} {f : Obj → Obj} (hs : ∀ w os, ((h w os).get? a).isSome = true) (ha : Nat.ble 11 a = true) :
    Ev (updatePart a part f) (fun w os => ⟨h w os, g, d, k, os⟩) p () (fun w os => ⟨(h w os).update a f, g, d, k, os⟩) p := ⟨1, fun w os b K H gd lv => sG_one rfl (by
  show (true && (Nat.ble 11 a || _ || _ || _)) = true
  rw [ha]; rfl) (by
  have h' := hs w os
  show step _ _ _ ⟨h w os, g, d, k, os⟩ ⟨.update a part f fun x => (Sem.pure x).wrap K H gd lv, _, _, _⟩ = _
  simp only [step, h', Sem.wrap, if_true])⟩
end
end
section
open PySem PySem.W PySem.Calls PyProof.Rows
set_option linter.unusedVariables false
section
variable {α β : Type} {s s1 s2 : SW} {p p1 p2 : Pos}
set_option maxRecDepth 100000 in
theorem ev_hash0 (x : Int) (t : Tok) (w : World) : ∀ (h : Heap) (g : Array GenState) (d : Drawn) (k : Nat) (os : OsState) b p K H gd lv, sG w 5 ⟨h, g, d, k, os⟩ (th (pyHash (.int x t)) b p K H gd lv) = some (⟨h, g, d, k + 1, os⟩, ⟨(pyHashByItsType.reduced (rawHash x)).wrap K H gd lv, cB b, p, [topFrame q0]⟩) := by
  refine byRow2 "special-get-raises" (P := fun w => ∀ (h : Heap) (g : Array GenState) (d : Drawn) (k : Nat) (os : OsState) b p K H gd lv, sG w 5 ⟨h, g, d, k, os⟩ (th (pyHash (.int x t)) b p K H gd lv) = some (⟨h, g, d, k + 1, os⟩, ⟨(pyHashByItsType.reduced (rawHash x)).wrap K H gd lv, cB b, p, [topFrame q0]⟩)) ?_ ?_ w
  all_goals (
    intro w h g d k os b p K H gd lv
    show segGo treeTable pw _ 11 (some (.ref 6)) 1 5 _ _ = _
    rw [PySem.W.Fast.te3277212676724774461, PySem.W.Fast.te14364793385576792824]
    unfold th
    rw [PySem.W.Fast.te10540108854288196387]
    kernel_rfl)
theorem ev_hash {h : World → OsState → Heap} {g : Array GenState} {d : Drawn} {kk : Nat} {k : Nat} {t : Tok} (hk : k < 2 ^ 60) : Ev (pyHash (.int (k : Int) t)) (fun w os => ⟨h w os, g, d, kk, os⟩) p (k : Int) (fun w os => ⟨h w os, g, d, kk + 1, os⟩) p := by
  refine ⟨5, fun w os b K H gd lv => ?_⟩
  rw [ev_hash0]
  have e : rawHash (k : Int) = (k : Int) := by
    unfold rawHash
    simp only [Int.natAbs_natCast]
    have h2 : (k : Int) % ((2 ^ 61 - 1 : Nat) : Int) = (k : Int) := Int.emod_eq_of_lt (by omega) (by omega)
    rw [h2, if_neg (c := (k : Int) < 0) (by omega), if_neg (by simp)]
  rw [e]
  have : pyHashByItsType.reduced (k : Int) = (Sem.pure (k : Int) : Sem Int) := by
    unfold pyHashByItsType.reduced
    rw [if_pos (by simp; omega), if_neg (by simp)]
    rfl
  rw [this]
  rfl
/-- a dict as the display builds it: as many changes as entries -/
@[reducible] noncomputable def dk (es : List DictEntry) : Obj := ⟨.type "dict", none, .dict es.toArray es.length, #[]⟩
theorem ev_dictEntries {d : Addr} {part : Option Value} {es : List DictEntry} (h : ∀ w os, (s w os).heap.get? d = some (dk es)) : Ev (dictEntries d part) s p es.toArray s p := by
  unfold dictEntries
  exact ev_bind (ev_loadPart h) ev_pure
theorem places_none {es : List DictEntry} {hs : Int} (hn : ∀ e ∈ es, e.hash ≠ hs) : placesWithHash es.toArray.size (fun i => es.toArray[i]?.map (·.hash)) hs = [] := by
  unfold placesWithHash
  rw [List.filter_eq_nil_iff]
  intro i hi
  have hi' : i < es.length := by simpa using hi
  simp only [List.getElem?_toArray]
  rw [List.getElem?_eq_getElem hi']
  simpa using hn _ (List.getElem_mem hi')
theorem ev_dictFind {d : Addr} {x hs : Int} {t : Tok} {es : List DictEntry} (h : ∀ w os, (s w os).heap.get? d = some (dk es)) (hn : ∀ e ∈ es, e.hash ≠ hs) : Ev (dictFind d (.int x t) hs) s p none s p := by
  unfold dictFind
  refine ev_holding (ev_bind (ev_dictEntries h) ?_)
  dsimp only
  rw [places_none hn]
  exact ev_pure
end
end
section
open PySem PySem.W PySem.Calls PyProof.Rows
set_option linter.unusedVariables false
noncomputable def Ex {α : Type} (t : Sem α) (s : SW) (a : α) (s' : SW) : Prop := ∀ p, ∃ p', Ev t s p a s' p'
section
variable {α β : Type} {s s1 s2 : SW}
theorem ex_of {t : Sem α} {a : α} (h : ∀ p, Ev t s p a s1 p) : Ex t s a s1 := fun p => ⟨p, h p⟩
theorem ex_pure {a : α} : Ex (pure a : Sem α) s a s := ex_of fun _ => ev_pure
theorem ex_bind {m : Sem α} {f : α → Sem β} {a : α} {c : β} (h : Ex m s a s1) (g : Ex (f a) s1 c s2) : Ex (m >>= f) s c s2 := fun p =>
  let ⟨p1, h1⟩ := h p
  let ⟨p2, h2⟩ := g p1
  ⟨p2, ev_bind h1 h2⟩
theorem ex_holding {m : Sem α} {vs : List Value} {a : α} (h : Ex m s a s1) : Ex (holding vs m) s a s1 := fun p => let ⟨p1, h1⟩ := h p; ⟨p1, ev_holding h1⟩
theorem ex_onRaise {m : Sem α} {hd : Value → Sem Unit} {a : α} (h : Ex m s a s1) : Ex (m.onRaise hd) s a s1 := fun p => let ⟨p1, h1⟩ := h p; ⟨p1, ev_onRaise h1⟩
theorem ex_rule {tag : String} : Ex (rule tag) s () s := ex_of fun _ => ev_rule
theorem ex_at {q : Pos} : Ex (standAt q) s () s := fun _ => ⟨q, ev_at⟩
end

/-- a heap of known size in each world -/
structure Base where
  heap : World → Heap
  z : Nat
  size : ∀ w, (heap w).objs.size = z
/-- the heap h with the objects l behind it -/
noncomputable def hp (h : Heap) (l : List Obj) : Heap := ⟨h.objs ++ l.toArray, h.life⟩
theorem hp_push (h : Heap) (l : List Obj) (o : Obj) : (hp h l).push o = hp h (l ++ [o]) := by
  unfold hp Heap.push
  show Heap.mk _ _ = Heap.mk _ _
  congr 1
  apply Array.toList_inj.mp
  simp
theorem hp_size (h : Heap) (l : List Obj) : (hp h l).objs.size = h.objs.size + l.length := by simp [hp]
theorem hp_get {h : Heap} {l : List Obj} {i : Nat} {es : List DictEntry} (e : l[i]? = some (dk es)) : (hp h l).get? (h.objs.size + i) = some (dk es) := by
  unfold Heap.get? hp
  have : (h.objs ++ l.toArray)[h.objs.size + i]? = some (dk es) := by
    rw [Array.getElem?_append_right (by omega)]
    simpa using e
  rw [this]
theorem hp_upd {h : Heap} {l : List Obj} {i : Nat} {o : Obj} {f : Obj → Obj} (e : l[i]? = some o) : (hp h l).update (h.objs.size + i) f = hp h (l.set i (f o)) := by
  unfold hp Heap.update
  show Heap.mk _ _ = Heap.mk _ _
  congr 1
  apply Array.ext_getElem?
  intro j
  rw [Array.getElem?_modify]
  by_cases hj : j < h.objs.size
  · rw [Array.getElem?_append_left hj, Array.getElem?_append_left hj, if_neg (by omega)]
  · rw [Array.getElem?_append_right (by omega), Array.getElem?_append_right (by omega)]
    simp only [List.getElem?_toArray]
    by_cases hi : h.objs.size + i = j
    · subst hi
      simp only [if_true, Nat.add_sub_cancel_left]
      rw [e]
      have hl : i < l.length := (List.getElem?_eq_some_iff.mp e).1
      simp [List.getElem?_set_self hl]
    · rw [if_neg hi, List.getElem?_set_ne (by omega)]
noncomputable def St (h : Base) (l : List Obj) (g : Array GenState) (dr : Drawn) (tk : Nat) : SW := fun w os => ⟨hp (h.heap w) l, g, dr, tk, os⟩
theorem st_get {h : Base} {l : List Obj} {g : Array GenState} {dr : Drawn} {tk : Nat} {i : Nat} {es : List DictEntry} (e : l[i]? = some (dk es)) : ∀ w os, (St h l g dr tk w os).heap.get? (h.z + i) = some (dk es) := fun w os => by
  rw [← h.size w]; exact hp_get e
theorem dk_push (es : List DictEntry) (e : DictEntry) : Obj.mapDictKeys (·.push e) (dk es) = dk (es ++ [e]) := by
  show (⟨.type "dict", none, .dict (es.toArray.push e) (es.length + 1), #[]⟩ : Obj) = ⟨.type "dict", none, .dict (es ++ [e]).toArray (es ++ [e]).length, #[]⟩
  simp
section
variable {h : Base} {l : List Obj} {g : Array GenState} {dr : Drawn} {tk : Nat} {i : Nat} {es : List DictEntry}
theorem ex_pushKey {en : DictEntry} {part : Option Value} (hb : 11 ≤ h.z) (e : l[i]? = some (dk es)) (hl : es.length < 1000) :
    Ex (updateDictKeys (h.z + i) (·.push en) part) (St h l g dr tk) () (St h (l.set i (dk (es ++ [en]))) g dr tk) := ex_of fun p => by
  unfold updateDictKeys
  refine ev_bind (ev_loadPart (st_get e)) ?_
  dsimp only
  refine ev_bind (a := ()) (s1 := St h (l.set i (dk (es ++ [en]))) g dr tk) (p1 := p) ?_ ?_
  · have := ev_updatePart (h := fun w _ => hp (h.heap w) l) (g := g) (d := dr) (k := tk) (p := p) (part := part) (a := h.z + i) (f := Obj.mapDictKeys (·.push en)) (fun w os => by
      have := st_get (h := h) (g := g) (dr := dr) (tk := tk) e w os
      rw [show (hp (h.heap w) l).get? (h.z + i) = _ from this]; rfl) (Nat.ble_eq_true_of_le (by omega))
    have e2 : (fun (w : World) (os : OsState) => (⟨(hp (h.heap w) l).update (h.z + i) (Obj.mapDictKeys (·.push en)), g, dr, tk, os⟩ : Shared)) = St h (l.set i (dk (es ++ [en]))) g dr tk := by
      funext w os
      rw [← h.size w, hp_upd e, dk_push]; rfl
    rw [e2] at this
    exact this
  · unfold lookBehind
    have hl' : i < l.length := (List.getElem?_eq_some_iff.mp e).1
    refine ev_bind (ev_loadPart (st_get (l := l.set i (dk (es ++ [en]))) (List.getElem?_set_self hl'))) ?_
    have : (dk (es ++ [en])).data.pastItsLine = none := by
      refine pastItsLine_dict ?_
      simp [sizeLine]; omega
    rw [this]
    exact ev_pure
theorem ex_find {x hs : Int} {t : Tok} (e : l[i]? = some (dk es)) (hn : ∀ e ∈ es, e.hash ≠ hs) : Ex (dictFind (h.z + i) (.int x t) hs) (St h l g dr tk) none (St h l g dr tk) :=
  ex_of fun _ => ev_dictFind (st_get e) hn
theorem ex_put {x hs : Int} {t : Tok} {v : Value} (hb : 11 ≤ h.z) (e : l[i]? = some (dk es)) (hn : ∀ e ∈ es, e.hash ≠ hs) (hl : es.length < 1000) :
    Ex (dictPut (h.z + i) hs (.int x t) v) (St h l g dr tk) () (St h (l.set i (dk (es ++ [⟨hs, .int x t, v⟩]))) g dr tk) := by
  unfold dictPut
  exact ex_bind (ex_find e hn) (ex_pushKey hb e hl)
theorem ex_set {x : Nat} {t : Tok} {v : Value} (hb : 11 ≤ h.z) (e : l[i]? = some (dk es)) (hn : ∀ e ∈ es, e.hash ≠ (x : Int)) (hl : es.length < 1000) (hx : x < 2 ^ 60) :
    Ex (dictSet (h.z + i) (.int (x : Int) t) v) (St h l g dr tk) () (St h (l.set i (dk (es ++ [⟨x, .int x t, v⟩]))) g dr (tk + 1)) := by
  unfold dictSet
  refine ex_holding (ex_bind (s1 := St h l g dr (tk + 1)) (ex_of fun p => ev_hash hx) ?_)
  unfold dictSetHashed
  exact ex_holding (ex_bind (ex_find e hn) (ex_bind ex_rule (ex_pushKey hb e hl)))
/-- the items' trees and what they give -/
inductive Its : List (Sem Value × Sem Value) → List (Nat × Str) → Prop
  | nil : Its [] []
  | cons {k v : Sem Value} {x : Nat} {t : Str} {r : List (Sem Value × Sem Value)} {xs : List (Nat × Str)} (hk : ∀ (h : Base) l g dr tk, Ex k (St h l g dr tk) (.int (x : Int) tk) (St h l g dr (tk + 1)))
      (hv : ∀ (h : Base) l g dr tk, Ex v (St h l g dr tk) (.str t tk) (St h l g dr (tk + 1))) (hx : x < 2 ^ 60) (h : Its r xs) : Its ((k, v) :: r) ((x, t) :: xs)
theorem Its.length : ∀ {r : List (Sem Value × Sem Value)} {xs : List (Nat × Str)}, Its r xs → r.length = xs.length := by
  intro r xs h
  induction h with
  | nil => rfl
  | cons _ _ _ _ ih => rw [List.length_cons, List.length_cons, ih]
noncomputable def entL (tk : Nat) : List (Nat × Str) → List DictEntry
  | [] => []
  | (x, t) :: r => ⟨(x : Int), .int (x : Int) tk, .str t (tk + 1)⟩ :: entL (tk + 3) r
noncomputable def entS (tk : Nat) : List (Nat × Str) → List DictEntry
  | [] => []
  | (x, t) :: r => ⟨(x : Int), .int (x : Int) tk, .str t (tk + 1)⟩ :: entS (tk + 2) r
theorem entL_hash : ∀ (tk : Nat) (xs : List (Nat × Str)), (entL tk xs).map (·.hash) = xs.map fun x => (x.1 : Int)
  | _, [] => rfl
  | tk, (x, t) :: r => by simp [entL, entL_hash (tk + 3) r]
theorem entS_hash : ∀ (tk : Nat) (xs : List (Nat × Str)), (entS tk xs).map (·.hash) = xs.map fun x => (x.1 : Int)
  | _, [] => rfl
  | tk, (x, t) :: r => by simp [entS, entS_hash (tk + 2) r]
theorem entL_length (tk : Nat) (xs : List (Nat × Str)) : (entL tk xs).length = xs.length := by
  have := congrArg List.length (entL_hash tk xs)
  simpa using this
theorem entS_length (tk : Nat) (xs : List (Nat × Str)) : (entS tk xs).length = xs.length := by
  have := congrArg List.length (entS_hash tk xs)
  simpa using this
theorem ex_subLoop (hb : 11 ≤ h.z) : ∀ {r : List (Sem Value × Sem Value)} {xs : List (Nat × Str)}, Its r xs → ∀ (l : List Obj) (es : List DictEntry) (tk : Nat), l[i]? = some (dk es) → (es.map (·.hash) ++ xs.map fun x => (x.1 : Int)).Nodup → es.length + xs.length < 1000 →
    Ex (forIn r PUnit.unit fun x (_ : PUnit) => match x with
      | (k, v) => do
        let kv ← k
        let vv ← holding [kv] v
        holding [kv, vv] (dictSet (h.z + i) kv vv)
        pure (ForInStep.yield PUnit.unit)) (St h l g dr tk) PUnit.unit (St h (l.set i (dk (es ++ entL tk xs))) g dr (tk + 3 * xs.length)) := by
  intro r xs H
  induction H with
  | nil =>
    intro l es tk e _ _
    have : l.set i (dk es) = l := List.ext_getElem? fun j => by
      by_cases hj : i = j
      · subst hj
        have hl : i < l.length := (List.getElem?_eq_some_iff.mp e).1
        rw [List.getElem?_set_self hl, e]
      · rw [List.getElem?_set_ne hj]
    simp only [entL, List.append_nil, this, List.length_nil, Nat.mul_zero, Nat.add_zero]
    exact ex_pure
  | @cons k v x t r xs hk hv hx H ih =>
    intro l es tk e hn hl
    have hil : i < l.length := (List.getElem?_eq_some_iff.mp e).1
    rw [List.forIn_cons]
    refine ex_bind (a := ForInStep.yield PUnit.unit) (s1 := (St h (l.set i (dk (es ++ [⟨(x : Int), .int (x : Int) tk, .str t (tk + 1)⟩]))) g dr (tk + 3))) ?_ ?_
    · refine ex_bind (hk _ _ _ _ _) (ex_bind (ex_holding (hv _ _ _ _ _)) (ex_bind (ex_holding (ex_set hb e ?_ (by simp only [List.length_cons] at hl; omega) hx)) ex_pure))
      intro en hen he
      have := (List.nodup_append.mp hn).2.2 en.hash (List.mem_map.mpr ⟨en, hen, rfl⟩) (x : Int) (by simp)
      exact this he
    · have := ih (l.set i (dk (es ++ [⟨(x : Int), .int (x : Int) tk, .str t (tk + 1)⟩]))) (es ++ [⟨(x : Int), .int (x : Int) tk, .str t (tk + 1)⟩]) (tk + 3) (List.getElem?_set_self hil)
        (by simpa using hn) (by simp only [List.length_cons, List.length_append, List.length_nil] at hl ⊢; omega)
      rw [List.set_set] at this
      simp only [entL, List.length_cons]
      rw [show tk + 3 * (xs.length + 1) = tk + 3 + 3 * xs.length by omega, show es ++ ⟨(x : Int), .int (x : Int) tk, .str t (tk + 1)⟩ :: entL (tk + 3) xs = es ++ [⟨(x : Int), .int (x : Int) tk, .str t (tk + 1)⟩] ++ entL (tk + 3) xs by simp]
      exact this
end
end
section
open PySem PySem.W PySem.Calls PyProof.Rows
set_option linter.unusedVariables false
theorem set_same {l : List Obj} {i : Nat} {o : Obj} (e : l[i]? = some o) : l.set i o = l := List.ext_getElem? fun j => by
  by_cases hj : i = j
  · subst hj
    have hl : i < l.length := (List.getElem?_eq_some_iff.mp e).1
    rw [List.getElem?_set_self hl, e]
  · rw [List.getElem?_set_ne hj]
theorem set_last (l : List Obj) (a b : Obj) : (l ++ [a]).set l.length b = l ++ [b] := by simp
theorem get_last (l : List Obj) (a : Obj) : (l ++ [a])[l.length]? = some a := by simp
theorem ex_seq {β : Type} {s s1 s2 : SW} {m : Sem PUnit} {f : PUnit → Sem β} {c : β} (h : Ex m s PUnit.unit s1) (g : Ex (f PUnit.unit) s1 c s2) : Ex (m >>= f) s c s2 := ex_bind h g
noncomputable def pvs (tk : Nat) : List (Nat × Str) → List (Value × Value)
  | [] => []
  | (x, t) :: r => (.int (x : Int) tk, .str t (tk + 1)) :: pvs (tk + 2) r
section
variable {h : Base} {l : List Obj} {g : Array GenState} {dr : Drawn} {tk : Nat} {i : Nat} {es : List DictEntry}
theorem ex_allocDict : Ex (alloc { cls := .type "dict", data := .dict #[] }) (St h l g dr tk) (h.z + l.length) (St h (l ++ [dk []]) g dr tk) := ex_of fun p => by
  have := ev_alloc (h := fun w _ => hp (h.heap w) l) (g := g) (d := dr) (k := tk) (p := p) (o := { cls := .type "dict", data := .dict #[] }) (z := h.z + l.length) (fun w os => by rw [hp_size, h.size w])
  have e2 : (fun (w : World) (os : OsState) => (⟨(hp (h.heap w) l).push { cls := .type "dict", data := .dict #[] }, g, dr, tk, os⟩ : Shared)) = St h (l ++ [dk []]) g dr tk := by
    funext w os
    rw [hp_push]; rfl
  rw [e2] at this
  exact this
theorem ex_subLong (hb : 11 ≤ h.z) {r : List (Sem Value × Sem Value)} {xs : List (Nat × Str)} (H : Its r xs) (hl : ¬ r.length ≤ 15) (hn : (xs.map fun x => (x.1 : Int)).Nodup) (hm : xs.length < 1000) :
    Ex (subDict r) (St h l g dr tk) (h.z + l.length) (St h (l ++ [dk (entL tk xs)]) g dr (tk + 3 * xs.length)) := by
  unfold subDict
  refine ex_bind ex_allocDict (ex_seq (ex_holding ?_) ex_pure)
  rw [if_neg hl]
  refine ex_bind ex_rule (ex_seq ?_ ex_pure)
  have := ex_subLoop (i := l.length) hb H (l ++ [dk []]) [] tk (get_last _ _) (by simpa using hn) (by simpa using hm) (g := g) (dr := dr)
  rw [set_last] at this
  exact this
theorem ex_evalPairs : ∀ {r : List (Sem Value × Sem Value)} {xs : List (Nat × Str)}, Its r xs → ∀ (tk : Nat), Ex (evalPairs r) (St h l g dr tk) (pvs tk xs) (St h l g dr (tk + 2 * xs.length)) := by
  intro r xs H
  induction H with
  | nil => intro tk; exact ex_pure
  | @cons k v x t r xs hk hv hx I ih =>
    intro tk
    unfold evalPairs
    refine ex_bind (hk _ _ _ _ _) (ex_bind (ex_holding (hv _ _ _ _ _)) (ex_bind (ex_holding (ih (tk + 2))) ?_))
    simp only [List.length_cons]
    rw [show tk + 2 * (xs.length + 1) = tk + 2 + 2 * xs.length by omega]
    exact ex_pure
theorem ex_shortLoop (hb : 11 ≤ h.z) : ∀ {r : List (Sem Value × Sem Value)} {xs : List (Nat × Str)}, Its r xs → ∀ (l : List Obj) (es : List DictEntry) (tk tk' : Nat), l[i]? = some (dk es) → (es.map (·.hash) ++ xs.map fun x => (x.1 : Int)).Nodup → es.length + xs.length < 1000 →
    Ex (forIn (pvs tk xs) PUnit.unit fun x (_ : PUnit) => match x with
      | (k, v) => do
        dictSet (h.z + i) k v
        pure (ForInStep.yield PUnit.unit)) (St h l g dr tk') PUnit.unit (St h (l.set i (dk (es ++ entS tk xs))) g dr (tk' + xs.length)) := by
  intro r xs H
  induction H with
  | nil =>
    intro l es tk tk' e _ _
    simp only [entS, List.append_nil, set_same e, List.length_nil, Nat.add_zero]
    exact ex_pure
  | @cons k v x t r xs hk hv hx H ih =>
    intro l es tk tk' e hn hl
    have hil : i < l.length := (List.getElem?_eq_some_iff.mp e).1
    unfold pvs
    rw [List.forIn_cons]
    refine ex_bind (a := ForInStep.yield PUnit.unit) (s1 := (St h (l.set i (dk (es ++ [⟨(x : Int), .int (x : Int) tk, .str t (tk + 1)⟩]))) g dr (tk' + 1))) ?_ ?_
    · refine ex_bind (ex_set hb e ?_ (by simp only [List.length_cons] at hl; omega) hx) ex_pure
      intro en hen he
      have := (List.nodup_append.mp hn).2.2 en.hash (List.mem_map.mpr ⟨en, hen, rfl⟩) (x : Int) (by simp)
      exact this he
    · have := ih (l.set i (dk (es ++ [⟨(x : Int), .int (x : Int) tk, .str t (tk + 1)⟩]))) (es ++ [⟨(x : Int), .int (x : Int) tk, .str t (tk + 1)⟩]) (tk + 2) (tk' + 1) (List.getElem?_set_self hil)
        (by simpa using hn) (by simp only [List.length_cons, List.length_append, List.length_nil] at hl ⊢; omega)
      rw [List.set_set] at this
      simp only [entS, List.length_cons]
      rw [show tk' + (xs.length + 1) = tk' + 1 + xs.length by omega, show es ++ ⟨(x : Int), .int (x : Int) tk, .str t (tk + 1)⟩ :: entS (tk + 2) xs = es ++ [⟨(x : Int), .int (x : Int) tk, .str t (tk + 1)⟩] ++ entS (tk + 2) xs by simp]
      exact this
theorem ex_subShort (hb : 11 ≤ h.z) {r : List (Sem Value × Sem Value)} {xs : List (Nat × Str)} (H : Its r xs) (hl : r.length ≤ 15) (hn : (xs.map fun x => (x.1 : Int)).Nodup) (hm : xs.length < 1000) :
    Ex (subDict r) (St h l g dr tk) (h.z + l.length) (St h (l ++ [dk (entS tk xs)]) g dr (tk + 3 * xs.length)) := by
  unfold subDict
  refine ex_bind ex_allocDict (ex_seq (ex_holding ?_) ex_pure)
  rw [if_pos hl]
  refine ex_bind (ex_evalPairs H _) (ex_holding (ex_seq ?_ ex_pure))
  have := ex_shortLoop (i := l.length) hb H (l ++ [dk []]) [] tk (tk + 2 * xs.length) (get_last _ _) (by simpa using hn) (by simpa using hm) (g := g) (dr := dr)
  rw [set_last, show tk + 2 * xs.length + xs.length = tk + 3 * xs.length by omega] at this
  exact this

/-- the merge of one made dict into another -/
theorem lookup_iter : typeLookup (.type "dict") "__iter__" = (pure (some (.builtin "dict.__iter__")) : Sem (Option Value)) := by
  rw [PySem.W.Fast.te1381439984260040727]; kernel_rfl
theorem sub_dict : isSubtype (.type "dict") (.type "dict") = (pure true : Sem Bool) := by rfl
theorem ex_isDict (e : l[i]? = some (dk es)) : Ex (isInstance (.ref (h.z + i)) (.type "dict")) (St h l g dr tk) true (St h l g dr tk) := by
  unfold isInstance typeOf
  refine ex_bind (ex_bind (ex_of fun _ => ev_loadPart (st_get e)) ex_pure) ?_
  show Ex (isSubtype (.type "dict") (.type "dict")) _ _ _
  rw [sub_dict]; exact ex_pure
theorem ex_iterDict (e : l[i]? = some (dk es)) : Ex (specialOf (.ref (h.z + i)) "__iter__") (St h l g dr tk) (some (.builtin "dict.__iter__")) (St h l g dr tk) := by
  unfold specialOf typeOf
  refine ex_bind (ex_bind (ex_of fun _ => ev_loadPart (st_get e)) ex_pure) ?_
  show Ex (typeLookup (.type "dict") "__iter__") _ _ _
  rw [lookup_iter]; exact ex_pure
theorem ex_entries {part : Option Value} (e : l[i]? = some (dk es)) : Ex (dictEntries (h.z + i) part) (St h l g dr tk) es.toArray (St h l g dr tk) := ex_of fun _ => ev_dictEntries (st_get e)
theorem ex_epoch {part : Option Value} (e : l[i]? = some (dk es)) : Ex (dictEpoch (h.z + i) part) (St h l g dr tk) es.length (St h l g dr tk) := by
  unfold dictEpoch
  exact ex_bind (ex_of fun _ => ev_loadPart (st_get e)) ex_pure
noncomputable def IntKey (e : DictEntry) : Prop := ∃ x t, e.key = .int x t
theorem entL_int : ∀ (tk : Nat) (xs : List (Nat × Str)), ∀ e ∈ entL tk xs, IntKey e
  | _, [], _, he => nomatch he
  | tk, (x, t) :: r, e, he => by
    rcases List.mem_cons.mp he with rfl | he
    · exact ⟨_, _, rfl⟩
    · exact entL_int _ r e he
theorem entS_int : ∀ (tk : Nat) (xs : List (Nat × Str)), ∀ e ∈ entS tk xs, IntKey e
  | _, [], _, he => nomatch he
  | tk, (x, t) :: r, e, he => by
    rcases List.mem_cons.mp he with rfl | he
    · exact ⟨_, _, rfl⟩
    · exact entS_int _ r e he
theorem ex_mergeLoop (hb : 11 ≤ h.z) {j : Nat} {es2 : List DictEntry} (hij : i ≠ j) (hk : ∀ e ∈ es2, IntKey e) (hm : es.length + es2.length < 1000) : ∀ (n k : Nat), k + n = es2.length → ∀ (l : List Obj), l[i]? = some (dk (es ++ es2.take k)) → l[j]? = some (dk es2) → (es.map (·.hash) ++ es2.map (·.hash)).Nodup →
    Ex (forIn (List.range' k n) PUnit.unit fun q (_ : PUnit) => do
      let __do_lift ← dictEntries (h.z + j)
      match __do_lift[q]? with
        | some e => do
          holding [e.key, e.val]
              (have __do_jp := fun (_ : PUnit) => dictPut (h.z + i) e.hash e.key e.val;
              if false = true then do
                let __do_lift ← dictFind (h.z + i) e.key e.hash
                if __do_lift.isSome = true then do
                    rule "dict.merge.duplicate-key"
                    let __do_lift ← newExc (Value.type "KeyError") [e.key]
                    let __r ← raiseNew __do_lift
                    __do_jp __r
                  else __do_jp ()
              else __do_jp ())
          let __do_lift ← dictEpoch (h.z + j)
          if (__do_lift != es2.length) = true then do
              unsupported "dict.changed-during-merge"
              pure (ForInStep.yield PUnit.unit)
            else pure (ForInStep.yield PUnit.unit)
        | x => do
          unsupported "dict.changed-during-merge"
          pure (ForInStep.yield PUnit.unit)) (St h l g dr tk) PUnit.unit (St h (l.set i (dk (es ++ es2))) g dr tk)
  | 0, k, e, l, e1, e2, hn => by
    rw [show es2.take k = es2 by rw [List.take_of_length_le (by omega)]] at e1
    rw [set_same e1]
    exact ex_pure
  | n + 1, k, e, l, e1, e2, hn => by
    have hil : i < l.length := (List.getElem?_eq_some_iff.mp e1).1
    have hkl : k < es2.length := by omega
    obtain ⟨x, t, hx⟩ := hk es2[k] (List.getElem_mem hkl)
    rw [List.range'_succ, List.forIn_cons]
    have e1' : (l.set i (dk (es ++ es2.take (k + 1))))[i]? = some (dk (es ++ es2.take (k + 1))) := List.getElem?_set_self hil
    have e2' : (l.set i (dk (es ++ es2.take (k + 1))))[j]? = some (dk es2) := by rw [List.getElem?_set_ne hij]; exact e2
    have hput := ex_put (h := h) (g := g) (dr := dr) (tk := tk) (x := x) (t := t) (hs := es2[k].hash) (v := es2[k].val) hb e1 (by
      intro en hen he
      rw [List.nodup_append] at hn
      rcases List.mem_append.mp hen with m | m
      · exact hn.2.2 en.hash (List.mem_map.mpr ⟨en, m, rfl⟩) es2[k].hash (List.mem_map.mpr ⟨_, List.getElem_mem hkl, rfl⟩) he
      · obtain ⟨q, hq, rfl⟩ := List.getElem_of_mem m
        rw [List.getElem_take] at he
        have hq' : q < k := by simp at hq; omega
        exact (List.pairwise_iff_getElem.mp hn.2.1) q k (by simpa using Nat.lt_trans hq' hkl) (by simpa using hkl) hq' (by simpa using he)) (by simp only [List.length_append, List.length_take]; omega)
    have hee : (⟨es2[k].hash, .int x t, es2[k].val⟩ : DictEntry) = es2[k] := by rw [← hx]
    rw [hee, show es ++ es2.take k ++ [es2[k]] = es ++ es2.take (k + 1) by rw [List.append_assoc, List.take_append_getElem hkl]] at hput
    refine ex_bind (a := ForInStep.yield PUnit.unit) (s1 := (St h (l.set i (dk (es ++ es2.take (k + 1)))) g dr tk)) ?_ ?_
    · refine ex_bind (ex_entries e2) ?_
      rw [show es2.toArray[k]? = some es2[k] by simp [hkl]]
      dsimp only
      refine ex_seq (s1 := (St h (l.set i (dk (es ++ es2.take (k + 1)))) g dr tk)) (ex_holding ?_) (ex_bind (ex_epoch e2') ?_)
      · rw [if_neg Bool.false_ne_true, hx]
        exact hput
      · rw [if_neg (by simp)]
        exact ex_pure
    · have := ex_mergeLoop hb hij hk hm n (k + 1) (by omega) _ e1' e2' hn
      rw [List.set_set] at this
      exact this
theorem ex_merge (hb : 11 ≤ h.z) {j : Nat} {es2 : List DictEntry} (hij : i ≠ j) (hk : ∀ e ∈ es2, IntKey e) (hm : es.length + es2.length < 1000) (e1 : l[i]? = some (dk es)) (he : es ≠ []) (e2 : l[j]? = some (dk es2)) (hn : (es.map (·.hash) ++ es2.map (·.hash)).Nodup) :
    Ex (mergeMapping (h.z + i) (.ref (h.z + j)) false) (St h l g dr tk) () (St h (l.set i (dk (es ++ es2))) g dr tk) := by
  unfold mergeMapping
  refine ex_bind (ex_isDict e2) ?_
  dsimp only
  rw [if_pos rfl]
  refine ex_bind (ex_iterDict e2) (ex_bind ex_pure ?_)
  rw [show (some (Value.builtin "dict.__iter__") == some (Value.builtin "dict.__iter__")) = true from by decide]
  dsimp only
  rw [if_neg (by rw [beq_iff_eq]; show ¬ (_ = (1 : Nat)); omega)]
  refine ex_bind (ex_entries e1) ?_
  rw [if_neg (by simpa using he)]
  refine ex_bind (ex_entries e2) (ex_bind (ex_epoch e2) (ex_seq ?_ ex_pure))
  rw [List.range_eq_range', show es2.toArray.size = es2.length by simp]
  exact ex_mergeLoop hb hij hk hm es2.length 0 (by omega) l (by simpa using e1) e2 hn
end
end
section
open PySem PySem.W PySem.Calls PyProof.Rows
set_option linter.unusedVariables false
noncomputable abbrev PairT := Sem Value × Sem Value
noncomputable def tag (x : PairT) : Option (Sem Value) × Sem Value := (some x.1, x.2)
noncomputable abbrev DStep := (Option (Sem Value) × Sem Value) → (Option Addr × List PairT) → Sem (ForInStep (Option Addr × List PairT))
noncomputable def Plain (F : DStep) : Prop := ∀ k v main run, run.length < 16 → F (some k, v) (main, run) = pure (.yield (main, run ++ [(k, v)]))
theorem loop_run {F : DStep} (hF : Plain F) (l2 : List (Option (Sem Value) × Sem Value)) (main : Option Addr) : ∀ (l1 run : List PairT), run.length + l1.length ≤ 16 → (forIn (l1.map tag ++ l2) (main, run) F : Sem _) = forIn l2 (main, run ++ l1) F
  | [], run, _ => by simp
  | (k, v) :: r, run, h => by
    simp only [List.length_cons] at h
    rw [List.map_cons, List.cons_append, List.forIn_cons]
    show (F (some k, v) (main, run) >>= _) = _
    rw [hF k v main run (by omega)]
    show (forIn (r.map tag ++ l2) (main, run ++ [(k, v)]) F : Sem _) = _
    rw [loop_run hF l2 main r (run ++ [(k, v)]) (by simp only [List.length_append, List.length_cons, List.length_nil]; omega)]
    simp
noncomputable def chE : Nat → List (List (Nat × Str)) → List (List DictEntry)
  | _, [] => []
  | tk, c :: r => entL tk c :: chE (tk + 51) r
noncomputable abbrev keysOf (xs : List (Nat × Str)) : List Int := xs.map fun x => (x.1 : Int)
theorem chE_hash : ∀ (tk : Nat) (cs : List (List (Nat × Str))), (chE tk cs).flatten.map (·.hash) = keysOf cs.flatten
  | _, [] => rfl
  | tk, c :: r => by simp [chE, entL_hash, chE_hash (tk + 51) r, keysOf]
section
variable {h : Base} {g : Array GenState} {dr : Drawn}
/-- a full chunk, met behind a main dict -/
noncomputable def Flushes (h : Base) (g : Array GenState) (dr : Drawn) (F : DStep) : Prop :=
  ∀ (k v : Sem Value) (run : List PairT) (xs : List (Nat × Str)) (es : List DictEntry) (subs : List Obj) (tk : Nat), Its (run ++ [(k, v)]) xs → run.length = 16 → es ≠ [] → (es.map (·.hash) ++ keysOf xs).Nodup → es.length + xs.length < 1000 →
    Ex (F (some k, v) (some (h.z + 0), run)) (St h (dk es :: subs) g dr tk) (.yield (some (h.z + 0), [])) (St h (dk (es ++ entL tk xs) :: (subs ++ [dk (entL tk xs)])) g dr (tk + 51))
theorem ex_chunks {F : DStep} (hF : Plain F) (hG : Flushes h g dr F) {a : Option Addr × List PairT} {s' : SW} {l2 : List (Option (Sem Value) × Sem Value)} :
    ∀ (cs : List (List PairT)) (xss : List (List (Nat × Str))) (es : List DictEntry) (subs : List Obj) (tk : Nat), cs.length = xss.length → (∀ p ∈ cs.zip xss, Its p.1 p.2 ∧ p.1.length = 17) → es ≠ [] → (es.map (·.hash) ++ keysOf xss.flatten).Nodup → es.length + xss.flatten.length < 1000 →
    Ex (forIn l2 (some (h.z + 0), []) F) (St h (dk (es ++ (chE tk xss).flatten) :: (subs ++ (chE tk xss).map dk)) g dr (tk + 51 * cs.length)) a s' →
    Ex (forIn (cs.flatten.map tag ++ l2) (some (h.z + 0), []) F) (St h (dk es :: subs) g dr tk) a s' := by
  intro cs
  induction cs with
  | nil =>
    intro xss es subs tk hl _ _ _ _ H
    cases xss with
    | nil => simpa [chE] using H
    | cons _ _ => cases hl
  | cons c cs ih =>
    intro xss es subs tk hl hI he hn hm H
    cases xss with
    | nil => cases hl
    | cons xs xss =>
      obtain ⟨I, hc⟩ := hI (c, xs) (by simp)
      obtain ⟨c0, kv, rfl⟩ : ∃ c0 kv, c = c0 ++ [kv] := ⟨c.dropLast, c.getLast (by intro e; simp [e] at hc), (List.dropLast_concat_getLast _).symm⟩
      obtain ⟨k, v⟩ := kv
      have hc0 : c0.length = 16 := by simpa using hc
      rw [List.flatten_cons, List.map_append, List.map_append, List.append_assoc, List.append_assoc, loop_run hF _ _ c0 [] (by simp; omega)]
      simp only [List.map_cons, List.map_nil, List.singleton_append, List.nil_append]
      rw [List.forIn_cons]
      have hn1 : (es.map (·.hash) ++ keysOf xs).Nodup := by
        refine List.Nodup.sublist ?_ hn
        simp [keysOf]
      have hx17 : xs.length = 17 := by rw [← I.length]; exact hc
      refine ex_bind (hG k v c0 xs es subs tk I hc0 he hn1 (by simp only [List.flatten_cons, List.length_append] at hm; omega)) ?_
      dsimp only
      refine ih xss (es ++ entL tk xs) (subs ++ [dk (entL tk xs)]) (tk + 51) (by simpa using hl) (fun p hp => hI p (by simp [hp])) (by simp [he]) ?_ ?_ ?_
      · simpa [entL_hash, keysOf] using hn
      · simp only [List.flatten_cons, List.length_append, entL_length] at hm ⊢; omega
      · have := H
        simp only [chE, List.flatten_cons, List.map_cons, List.length_cons] at this
        rw [show tk + 51 * (cs.length + 1) = tk + 51 + 51 * cs.length by omega] at this
        simpa using this

/-- the first full chunk -/
noncomputable def Opens (h : Base) (g : Array GenState) (dr : Drawn) (F : DStep) : Prop :=
  ∀ (k v : Sem Value) (run : List PairT) (xs : List (Nat × Str)) (tk : Nat), Its (run ++ [(k, v)]) xs → run.length = 16 → (keysOf xs).Nodup →
    Ex (F (some k, v) (none, run)) (St h [] g dr tk) (.yield (some (h.z + 0), [])) (St h [dk (entL tk xs)] g dr (tk + 51))
theorem ex_dispLoop {F : DStep} (hF : Plain F) (hH : Opens h g dr F) (hG : Flushes h g dr F) {c0 r : List PairT} {cs : List (List PairT)} {x0 : List (Nat × Str)} {xss : List (List (Nat × Str))} {tk : Nat}
    (I0 : Its c0 x0) (h0 : c0.length = 17) (hl : cs.length = xss.length) (hI : ∀ p ∈ cs.zip xss, Its p.1 p.2 ∧ p.1.length = 17) (hr : r.length ≤ 15)
    (hn : (keysOf x0 ++ keysOf xss.flatten).Nodup) (hm : x0.length + xss.flatten.length < 1000) :
    Ex (forIn ((c0 ++ cs.flatten ++ r).map tag) (none, []) F) (St h [] g dr tk) (some (h.z + 0), r)
      (St h (dk (entL tk x0 ++ (chE (tk + 51) xss).flatten) :: (chE (tk + 51) xss).map dk) g dr (tk + 51 + 51 * cs.length)) := by
  have hx0 : x0.length = 17 := by rw [← I0.length]; exact h0
  have hne0 : entL tk x0 ≠ [] := by intro e; have := congrArg List.length e; rw [entL_length, hx0] at this; cases this
  obtain ⟨c1, kv, rfl⟩ : ∃ c1 kv, c0 = c1 ++ [kv] := ⟨c0.dropLast, c0.getLast (by intro e; simp [e] at h0), (List.dropLast_concat_getLast _).symm⟩
  obtain ⟨k, v⟩ := kv
  have hc1 : c1.length = 16 := by simpa using h0
  rw [List.map_append, List.map_append, List.append_assoc, List.map_append, List.append_assoc]
  rw [loop_run hF _ _ c1 [] (by simp only [List.length_nil]; omega)]
  simp only [List.map_cons, List.map_nil, List.singleton_append, List.nil_append]
  rw [List.forIn_cons]
  refine ex_bind (hH k v c1 x0 tk I0 hc1 (List.Nodup.sublist (by simp [keysOf]) hn)) ?_
  dsimp only
  refine ex_chunks hF hG cs xss (entL tk x0) [] (tk + 51) hl hI hne0 (by rw [entL_hash]; exact hn) (by rw [entL_length]; omega) ?_
  rw [List.nil_append]
  have := loop_run hF [] (some (h.z + 0)) r [] (by simp only [List.length_nil]; omega)
  rw [List.append_nil, List.nil_append] at this
  rw [this]
  exact ex_pure
theorem ex_display (hb : 11 ≤ h.z) {c0 r : List PairT} {cs : List (List PairT)} {x0 xr : List (Nat × Str)} {xss : List (List (Nat × Str))} {tk : Nat}
    (I0 : Its c0 x0) (h0 : c0.length = 17) (hl : cs.length = xss.length) (hI : ∀ p ∈ cs.zip xss, Its p.1 p.2 ∧ p.1.length = 17) (Ir : Its r xr) (hr : r.length ≤ 15) (hr0 : r ≠ [])
    (hn : (keysOf x0 ++ keysOf xss.flatten ++ keysOf xr).Nodup) (hm : x0.length + xss.flatten.length + xr.length < 1000) :
    Ex (dictDisplay ((c0 ++ cs.flatten ++ r).map tag)) (St h [] g dr tk) (.ref (h.z + 0))
      (St h (dk (entL tk x0 ++ (chE (tk + 51) xss).flatten ++ entS (tk + 51 + 51 * cs.length) xr) :: ((chE (tk + 51) xss).map dk ++ [dk (entS (tk + 51 + 51 * cs.length) xr)])) g dr (tk + 51 + 51 * cs.length + 3 * xr.length)) := by
  unfold dictDisplay
  dsimp only
  have hx0 : x0.length = 17 := by rw [← I0.length]; exact h0
  have hne0 : entL tk x0 ≠ [] := by intro e; have := congrArg List.length e; rw [entL_length, hx0] at this; cases this
  refine ex_bind (a := (some (h.z + 0), r)) (s1 := (St h (dk (entL tk x0 ++ (chE (tk + 51) xss).flatten) :: (chE (tk + 51) xss).map dk) g dr (tk + 51 + 51 * cs.length))) ?_ ?_
  · refine ex_dispLoop ?_ ?_ ?_ I0 h0 hl hI hr (List.Nodup.sublist (by simp) hn) (by omega)
    · intro k v main run hlt
      dsimp only
      rw [if_neg (by simp only [List.length_append, List.length_cons, List.length_nil, beq_iff_eq]; omega)]
    · intro k v run xs tk I hr16 hn
      dsimp only
      rw [if_pos (by simp [hr16]), if_neg (by simp)]
      refine ex_bind (a := some (h.z + 0)) (ex_bind (a := h.z + 0) ?_ ex_pure) ex_pure
      have hxs : xs.length = 17 := by rw [← I.length]; simp [hr16]
      have := ex_subLong (l := []) (g := g) (dr := dr) (tk := tk) hb I (by simp [hr16]) hn (by omega)
      simpa [hxs] using this
    · intro k v run xs es subs tk I hr16 he hn hm
      dsimp only
      rw [if_pos (by simp [hr16]), if_neg (by simp)]
      have hxs : xs.length = 17 := by rw [← I.length]; simp [hr16]
      have a1 := ex_subLong (l := dk es :: subs) (g := g) (dr := dr) (tk := tk) hb I (by simp [hr16]) (List.Nodup.sublist (by simp [keysOf]) hn) (by omega)
      rw [hxs] at a1
      have a2 := ex_merge (h := h) (l := dk es :: subs ++ [dk (entL tk xs)]) (g := g) (dr := dr) (tk := tk + 51) (i := 0) (j := (dk es :: subs).length) (es := es) (es2 := entL tk xs) hb (by simp) (entL_int _ _)
        (by rw [entL_length]; omega) rfl he (by simp) (by rw [entL_hash]; exact hn)
      refine ex_bind (a := some (h.z + 0)) (ex_bind (ex_holding a1) (ex_seq (ex_onRaise (ex_holding a2)) ex_pure)) ?_
      exact ex_pure
  · dsimp only
    rw [if_neg (by simpa using hr0)]
    have a1 := ex_subShort (l := dk (entL tk x0 ++ (chE (tk + 51) xss).flatten) :: (chE (tk + 51) xss).map dk) (g := g) (dr := dr) (tk := tk + 51 + 51 * cs.length) hb Ir hr (List.Nodup.sublist (by simp [keysOf]) hn) (by omega)
    have a2 := ex_merge (h := h) (l := dk (entL tk x0 ++ (chE (tk + 51) xss).flatten) :: (chE (tk + 51) xss).map dk ++ [dk (entS (tk + 51 + 51 * cs.length) xr)]) (g := g) (dr := dr) (tk := tk + 51 + 51 * cs.length + 3 * xr.length) (i := 0)
      (j := (dk (entL tk x0 ++ (chE (tk + 51) xss).flatten) :: (chE (tk + 51) xss).map dk).length) (es := entL tk x0 ++ (chE (tk + 51) xss).flatten) (es2 := entS (tk + 51 + 51 * cs.length) xr) hb (by simp) (entS_int _ _)
      (by have := congrArg List.length (chE_hash (tk + 51) xss); simp only [List.length_map] at this; rw [entS_length, List.length_append, entL_length, this]; omega) rfl (by simp [hne0]) (by simp) (by
        rw [List.map_append, entL_hash, chE_hash, entS_hash]; exact hn)
    refine ex_bind (a := some (h.z + 0)) (ex_bind (ex_holding a1) (ex_seq (ex_onRaise (ex_holding a2)) ex_pure)) ?_
    exact ex_pure
end
end
section
open PySem PySem.W PySem.Calls PyProof.Rows
set_option linter.unusedVariables false
noncomputable abbrev eN : Env := Mine.env1
/-- the entries of a display of constants, read off its trees -/
noncomputable def litK (k : Option Expr) : Option Nat := @Option.casesOn _ (fun _ => Option Nat) k none (fun e => @PySem.Expr.casesOn (fun _ => Option Nat) e (fun _ _ _ => none) (fun _ _ _ => none) (fun _ _ _ _ => none) (fun _ _ _ => none) (fun _ _ _ _ => none) (fun _ _ _ _ => none) (fun _ _ _ => none) (fun _ _ _ => none) (fun _ _ _ _ => none) (fun _ _ _ _ => none) (fun _ _ _ _ _ => none) (fun _ _ _ _ => none) (fun _ _ => none) (fun _ _ => none) (fun _ _ => none) (fun _ _ _ _ => none) (fun _ _ _ _ => none) (fun _ _ _ _ => none) (fun _ _ => none) (fun c _ _ => @PySem.Const.casesOn (fun _ => Option Nat) c (none) (fun _ => none) (fun i => @Int.casesOn (fun _ => Option Nat) i (fun n => some n) (fun _ => none)) (fun _ => none) (fun _ _ => none) (fun _ => none) (fun _ => none) (none)) (fun _ _ _ => none) (fun _ _ _ => none) (fun _ _ => none) (fun _ _ => none) (fun _ _ => none) (fun _ _ _ => none) (fun _ _ _ _ => none))
noncomputable def litS (e : Expr) : Option Str := @PySem.Expr.casesOn (fun _ => Option Str) e (fun _ _ _ => none) (fun _ _ _ => none) (fun _ _ _ _ => none) (fun _ _ _ => none) (fun _ _ _ _ => none) (fun _ _ _ _ => none) (fun _ _ _ => none) (fun _ _ _ => none) (fun _ _ _ _ => none) (fun _ _ _ _ => none) (fun _ _ _ _ _ => none) (fun _ _ _ _ => none) (fun _ _ => none) (fun _ _ => none) (fun _ _ => none) (fun _ _ _ _ => none) (fun _ _ _ _ => none) (fun _ _ _ _ => none) (fun _ _ => none) (fun c _ _ => @PySem.Const.casesOn (fun _ => Option Str) c (none) (fun _ => none) (fun _ => none) (fun _ => none) (fun _ _ => none) (fun s => some s) (fun _ => none) (none)) (fun _ _ _ => none) (fun _ _ _ => none) (fun _ _ => none) (fun _ _ => none) (fun _ _ => none) (fun _ _ _ => none) (fun _ _ _ _ => none)
theorem litK_of {k : Option Expr} {n : Nat} (h : litK k = some n) : ∃ a p, k = some (.Constant (.int (.ofNat n)) a p) := by
  cases k with
  | none => cases h
  | some e => cases e with
    | Constant c a p => cases c with
      | int i => cases i with
        | ofNat n => cases h; exact ⟨_, _, rfl⟩
        | negSucc _ => cases h
      | _ => cases h
    | _ => cases h
theorem litS_of {e : Expr} {s : Str} (h : litS e = some s) : ∃ a p, e = .Constant (.str s) a p := by
  cases e with
  | Constant c a p => cases c with
    | str i => cases h; exact ⟨_, _, rfl⟩
    | _ => cases h
  | _ => cases h
noncomputable def lits : List (Option Expr) → List Expr → Option (List (Nat × Str))
  | [], [] => some []
  | k :: ks, v :: vs => (litK k).bind fun a => (litS v).bind fun s => (lits ks vs).bind fun r => bif Nat.blt a (2 ^ 60) then some ((a, s) :: r) else none
  | _, _ => none
noncomputable def prs (q : Pos) (env : Env) : List (Option Expr) → List Expr → List PairT
  | some k :: ks, v :: vs => (eval k env, do let x ← eval v env; standAt q; pure x) :: prs q env ks vs
  | _, _ => []
theorem ex_fresh {h : Base} {l : List Obj} {g : Array GenState} {dr : Drawn} {tk : Nat} : Ex fresh (St h l g dr tk) tk (St h l g dr (tk + 1)) := ex_of fun _ => ev_fresh
theorem ev_mkInt {h : Base} {l : List Obj} {g : Array GenState} {dr : Drawn} {tk : Nat} {k : Nat} {n : Nat} {q : Pos} {env : Env} : Ex (eval (.Constant (.int (.ofNat k)) n q) env) (St h l g dr tk) (.int (k : Int) tk) (St h l g dr (tk + 1)) :=
  ex_bind (m := fresh) (f := fun t => pure (Value.int (k : Int) t)) ex_fresh ex_pure
theorem ev_mkText {h : Base} {l : List Obj} {g : Array GenState} {dr : Drawn} {tk : Nat} {x : Str} {n : Nat} {q : Pos} {env : Env} : Ex (eval (.Constant (.str x) n q) env) (St h l g dr tk) (.str x tk) (St h l g dr (tk + 1)) :=
  ex_bind (m := fresh) (f := fun t => pure (Value.str x t)) ex_fresh ex_pure
theorem its_of {q : Pos} {env : Env} : ∀ {ks : List (Option Expr)} {vs : List Expr} {xs : List (Nat × Str)}, lits ks vs = some xs →
    Its (prs q env ks vs) xs ∧ (evalEachOpt ks env).zip ((evalEach vs env).map fun v => do let x ← v; standAt q; pure x) = (prs q env ks vs).map tag
  | [], [], xs, h => by cases h; exact ⟨.nil, rfl⟩
  | [], _ :: _, xs, h => by cases h
  | _ :: _, [], xs, h => by cases h
  | k :: ks, v :: vs, xs, h => by
    obtain ⟨k, ha, h⟩ := Option.bind_eq_some_iff.mp (show (litK k).bind _ = some xs from h)
    obtain ⟨s, hs, h⟩ := Option.bind_eq_some_iff.mp h
    obtain ⟨r, hr, h9⟩ := Option.bind_eq_some_iff.mp h
    obtain ⟨n1, p1, rfl⟩ := litK_of ha
    obtain ⟨n2, p2, rfl⟩ := litS_of hs
    have hk : Nat.blt k (2 ^ 60) = true := by
      cases e : Nat.blt k (2 ^ 60) with
      | true => rfl
      | false => rw [e] at h9; cases h9
    rw [hk] at h9
    cases h9
    have ⟨i1, i2⟩ := its_of (q := q) (env := env) hr
    refine ⟨.cons (fun _ _ _ _ _ => ev_mkInt) (fun _ _ _ _ _ => ?_) (Nat.le_of_ble_eq_true hk) i1, ?_⟩
    · exact ex_bind ev_mkText (ex_bind ex_at ex_pure)
    · have : (evalEachOpt (some (Expr.Constant (Const.int (Int.ofNat k)) n1 p1) :: ks) env).zip ((evalEach (Expr.Constant (Const.str s) n2 p2 :: vs) env).map fun v => do let x ← v; standAt q; pure x) =
        (some (eval (Expr.Constant (Const.int (Int.ofNat k)) n1 p1) env), do let x ← eval (Expr.Constant (Const.str s) n2 p2) env; standAt q; pure x) :: (evalEachOpt ks env).zip ((evalEach vs env).map fun v => do let x ← v; standAt q; pure x) := rfl
      rw [this, i2]; rfl
noncomputable def ch {α : Type} : Nat → List α → List (List α)
  | 0, _ => []
  | n + 1, l => l.take 17 :: ch n (l.drop 17)
theorem ch_flat {α : Type} : ∀ (n : Nat) (l : List α), (ch n l).flatten ++ l.drop (17 * n) = l
  | 0, l => by simp [ch]
  | n + 1, l => by
    have := ch_flat n (l.drop 17)
    rw [List.drop_drop] at this
    simp only [ch, List.flatten_cons, List.append_assoc]
    rw [show 17 * (n + 1) = 17 + 17 * n by omega, this, List.take_append_drop]
theorem ch_length {α : Type} : ∀ (n : Nat) (l : List α), (ch n l).length = n
  | 0, _ => rfl
  | n + 1, l => by simp [ch, ch_length n]
theorem Its.drop : ∀ (n : Nat) {r : List PairT} {xs : List (Nat × Str)}, Its r xs → Its (r.drop n) (xs.drop n)
  | 0, _, _, h => h
  | n + 1, _, _, .nil => .nil
  | n + 1, _, _, .cons _ _ _ h => h.drop n
theorem Its.take : ∀ (n : Nat) {r : List PairT} {xs : List (Nat × Str)}, Its r xs → Its (r.take n) (xs.take n)
  | 0, _, _, _ => by simp; exact .nil
  | n + 1, _, _, .nil => .nil
  | n + 1, _, _, .cons a b c h => .cons a b c (h.take n)
theorem Its.ch : ∀ (n : Nat) {r : List PairT} {xs : List (Nat × Str)}, Its r xs → 17 * n ≤ r.length → ∀ p ∈ (ch n r).zip (ch n xs), Its p.1 p.2 ∧ p.1.length = 17
  | 0, _, _, _, _, p, hp => by simp [Mine.ch] at hp
  | n + 1, r, xs, h, hl, p, hp => by
    simp only [Mine.ch, List.zip_cons_cons, List.mem_cons] at hp
    rcases hp with rfl | hp
    · exact ⟨h.take 17, by simp; omega⟩
    · exact (h.drop 17).ch n (by simp; omega) p hp
theorem keys_ch (n : Nat) (xs : List (Nat × Str)) : keysOf (xs.take 17) ++ keysOf (ch n (xs.drop 17)).flatten ++ keysOf (xs.drop (17 * (n + 1))) = keysOf xs := by
  have := ch_flat (n + 1) xs
  conv => rhs; rw [← this]
  simp [ch, keysOf]
/-- the display's own objects: the whole dict, and the parts that it was put together from -/
noncomputable def subE (n tk : Nat) (xs : List (Nat × Str)) : List (List DictEntry) := chE (tk + 51) (ch n (xs.drop 17)) ++ [entS (tk + 51 + 51 * n) (xs.drop (17 * (n + 1)))]
noncomputable def mainE (n tk : Nat) (xs : List (Nat × Str)) : List DictEntry := entL tk (xs.take 17) ++ (subE n tk xs).flatten
theorem ex_dict {h : Base} {g : Array GenState} {dr : Drawn} (hb : 11 ≤ h.z) {ks : List (Option Expr)} {vs : List Expr} {q : Pos} {env : Env} {xs : List (Nat × Str)} {n tk : Nat} (hx : lits ks vs = some xs)
    (h1 : 17 * (n + 1) < xs.length) (h2 : xs.length ≤ 17 * (n + 1) + 15) (hm : xs.length < 1000) (hn : (keysOf xs).Nodup) :
    Ex (eval (.Dict ks vs q) env) (St h [] g dr tk) (.ref (h.z + 0)) (St h (dk (mainE n tk xs) :: (subE n tk xs).map dk) g dr (tk + 3 * xs.length)) := by
  obtain ⟨I, e⟩ := its_of (q := q) (env := env) hx
  show Ex (do standAt q; dictDisplay ((evalEachOpt ks env).zip ((evalEach vs env).map fun v => do let x ← v; standAt q; pure x))) _ _ _
  rw [e]
  refine ex_bind ex_at ?_
  have hlen := I.length
  have hsplit : prs q env ks vs = (prs q env ks vs).take 17 ++ (ch n ((prs q env ks vs).drop 17)).flatten ++ (prs q env ks vs).drop (17 * (n + 1)) := by
    have := ch_flat (n + 1) (prs q env ks vs)
    conv => lhs; rw [← this]
    simp [ch]
  have D := ex_display (h := h) (g := g) (dr := dr) (tk := tk) hb (I.take 17) (by simp; omega) (cs := ch n ((prs q env ks vs).drop 17)) (xss := ch n (xs.drop 17)) (by rw [ch_length, ch_length]) ((I.drop 17).ch n (by simp; omega))
    (I.drop (17 * (n + 1))) (by simp; omega) (by intro e'; have := congrArg List.length e'; simp at this; omega) (by rw [keys_ch]; exact hn) (by
      have e1 := congrArg List.length (keys_ch n xs)
      simp only [keysOf, List.length_append, List.length_map] at e1
      omega)
  rw [← hsplit, ch_length] at D
  have ht : tk + 51 + 51 * n + 3 * (xs.drop (17 * (n + 1))).length = tk + 3 * xs.length := by simp; omega
  rw [ht] at D
  simpa [mainE, subE] using D
end
section
open PySem PySem.W PySem.Calls PyProof.Rows
set_option linter.unusedVariables false
noncomputable def glEnts (P : Params) : List DictEntry := match (o3 P).data with | .dict es _ => es.toList.tail | _ => []
noncomputable def gl (P : Params) (nm : String) (t k : Nat) : Obj := ⟨.type "dict", none, .dict (en P "__name__" 165 (.str (.ofString nm) t) :: (glEnts P).take (k - 1)).toArray k, #[]⟩
noncomputable def ltEnts (P : Params) : List Value := match (o12 P).data with | .fields vs => vs.toList | _ => []
noncomputable def lt (P : Params) (k : Nat) : Obj := ⟨.none, none, .fields ((ltEnts P).take (3 * k)).toArray, #[]⟩
noncomputable def insL (t : BT) (n : Nat) : List Obj → BT
  | [] => t
  | o :: r => insL (t.ins n o) (n + 1) r
noncomputable def okL (t : BT) (n : Nat) : List Obj → Bool
  | [] => true
  | o :: r => ((t.ins n o).get n).isSome && okL (t.ins n o) (n + 1) r
theorem abs_insL {life : Life} : ∀ (l : List Obj) (t : BT) (n : Nat), okL t n l = true → absHeap (insL t n l) (n + l.length) life = hp (absHeap t n life) l
  | [], t, n, _ => by simp [insL, hp]
  | o :: r, t, n, h => by
    simp only [okL, Bool.and_eq_true] at h
    have := abs_insL (life := life) r (t.ins n o) (n + 1) h.2
    simp only [insL, List.length_cons]
    rw [show n + (r.length + 1) = n + 1 + r.length by omega, this, absHeap_ins h.1]
    unfold hp Heap.push
    show Heap.mk _ _ = Heap.mk _ _
    congr 1
    apply Array.toList_inj.mp
    simp
noncomputable def T4 (P : Params) : BT := insL .nil 0 [boot_o_0 P, boot_o_1 P, boot_o_2 P, boot_o_3 P, boot_o_4 P, boot_o_5 P, boot_o_6 P, boot_o_7 P, boot_o_8 P, o9 P, o10 P, o11 P, lt P 0, o13 P, o14 P]
noncomputable def T115 (P : Params) : BT := insL .nil 0 [boot_o_0 P, boot_o_1 P, boot_o_2 P, gl P "cpy313.stringprep" 329 15, boot_o_4 P, boot_o_5 P, boot_o_6 P, boot_o_7 P, boot_o_8 P, o9 P, o10 P, o11 P, lt P 6, o13 P, o14 P, o15 P, o16 P, o17 P, o18 P, o19 P, o20 P, o21 P, o22 P, o23 P, o24 P, o25 P, o26 P, o27 P, o28 P, o29 P, o30 P, o31 P, o32 P, o33 P, o34 P, o35 P, o36 P, o37 P, o38 P, o39 P, o40 P, o41 P, o42 P, o43 P, o44 P, o45 P, o46 P, o47 P, o48 P, o49 P, o50 P, o51 P, o52 P, o53 P, o54 P, o55 P, o56 P, o57 P, o58 P, o59 P, o60 P, o61 P, o62 P, o63 P, o64 P, o65 P, o66 P, o67 P, o68 P, o69 P, o70 P, o71 P, o72 P, o73 P, o74 P, o75 P, o76 P, o77 P, o78 P, o79 P, o80 P, o81 P, o82 P, o83 P, o84 P, o85 P, o86 P, o87 P, o88 P, o89 P, o90 P, o91 P, o92 P, o93 P, o94 P, o95 P, o96 P, o97 P, o98 P, o99 P, o100 P, o101 P, o102 P, o103 P, o104 P, o105 P, o106 P, o107 P, o108 P, o109 P, o110 P, o111 P, o112 P, o113 P, o114 P, o115 P]
noncomputable def T11 (P : Params) : BT := insL (((T115 P).set 3 fun _ => gl P "cpy313.stringprep" 329 17).set 12 fun _ => lt P 7) 116
  [o116 P, o117 P, o118 P, o119 P, o120 P, o121 P, o122 P, o123 P, o124 P, o125 P, o126 P, o127 P, o128 P, o129 P, o130 P, o131 P, o132 P, o133 P]
noncomputable def q1 : Pos := ⟨70, 0, 70, 8⟩
noncomputable def q11 : Pos := ⟨72, 0, 73, 30⟩
noncomputable def q12 : Pos := ⟨74, 0, 74, 13⟩
noncomputable def q31 : Pos := ⟨209, 0, 253, 108⟩
noncomputable def S9 (w : World) (os : OsState) : SharedT := ⟨T115 w.params, 116, {}, #[], {}, 331, os⟩
noncomputable def S11 (w : World) (os : OsState) : SharedT := ⟨T11 w.params, 134, {}, #[], {}, 398, os⟩
set_option maxRecDepth 100000
noncomputable def Sb (w : World) (os : OsState) : SharedT := ⟨T4 w.params, 15, {}, #[], {}, 187, os⟩
theorem p0 (b : List Stmt) : ∀ (w : World) (os : OsState), segRunT treeTable pw w 11 (some (.ref 6)) 1 670 (Sb w os) (piecesOf [stm 0, stm 1, stm 2, stm 3, stm 4, stm 5, stm 6, stm 7, stm 8] eN (cB b) q0 [topFrame q0]) = some (.next, S9 w os, cB b, q1) := by
  intro w
  refine byRow2 "special-get-raises" (P := fun w => ∀ os : OsState, segRunT treeTable pw w 11 (some (.ref 6)) 1 670 (Sb w os) (piecesOf [stm 0, stm 1, stm 2, stm 3, stm 4, stm 5, stm 6, stm 7, stm 8] eN (cB b) q0 [topFrame q0]) = some (.next, S9 w os, cB b, q1)) ?_ ?_ w
  all_goals (
    intro w os
    rw [PySem.W.Fast.te10110043849684766642, PySem.W.Fast.te14364793385576792824]
    kernel_rfl)
theorem p9 (b : List Stmt) : ∀ (w : World) (os : OsState), segRunT treeTable pw w 11 (some (.ref 6)) 1 1028 (S9 w os) (piecesOf [stm 9, stm 10] eN (cB b) q1 [topFrame q0]) = some (.next, S11 w os, cB b, q11) := by
  intro w
  refine byRow2 "special-get-raises" (P := fun w => ∀ os : OsState, segRunT treeTable pw w 11 (some (.ref 6)) 1 1028 (S9 w os) (piecesOf [stm 9, stm 10] eN (cB b) q1 [topFrame q0]) = some (.next, S11 w os, cB b, q11)) ?_ ?_ w
  all_goals (
    intro w os
    rw [PySem.W.Fast.te10110043849684766642, PySem.W.Fast.te14364793385576792824]
    kernel_rfl)
end
section
open PySem PySem.W PySem.Calls PyProof.Rows
set_option linter.unusedVariables false
noncomputable def dKeys (x : Stmt) : List (Option Expr) := @PySem.Stmt.casesOn (fun _ => List (Option Expr)) x (fun _ _ _ _ _ _ _ _ _ _ => []) (fun _ _ _ _ _ _ _ _ _ _ => []) (fun _ _ _ _ _ _ _ _ _ _ _ => []) (fun _ _ => []) (fun _ _ => []) (fun _ e _ => @PySem.Expr.casesOn (fun _ => List (Option Expr)) e (fun _ _ _ => []) (fun _ _ _ => []) (fun _ _ _ _ => []) (fun _ _ _ => []) (fun _ _ _ _ => []) (fun _ _ _ _ => []) (fun z _ _ => z) (fun _ _ _ => []) (fun _ _ _ _ => []) (fun _ _ _ _ => []) (fun _ _ _ _ _ => []) (fun _ _ _ _ => []) (fun _ _ => []) (fun _ _ => []) (fun _ _ => []) (fun _ _ _ _ => []) (fun _ _ _ _ => []) (fun _ _ _ _ => []) (fun _ _ => []) (fun _ _ _ => []) (fun _ _ _ => []) (fun _ _ _ => []) (fun _ _ => []) (fun _ _ => []) (fun _ _ => []) (fun _ _ _ => []) (fun _ _ _ _ => [])) (fun _ _ _ _ _ _ _ => []) (fun _ _ _ _ => []) (fun _ _ _ _ _ => []) (fun _ _ _ _ _ => []) (fun _ _ _ _ _ => []) (fun _ _ _ _ => []) (fun _ _ _ _ => []) (fun _ _ _ => []) (fun _ _ _ => []) (fun _ _ _ => []) (fun _ _ _ => []) (fun _ _ _ _ _ => []) (fun _ _ _ _ _ => []) (fun _ _ _ => []) (fun _ _ => []) (fun _ _ _ _ => []) (fun _ _ => []) (fun _ _ => []) (fun _ _ => []) (fun _ => []) (fun _ => []) (fun _ => [])
noncomputable def dVals (x : Stmt) : List Expr := @PySem.Stmt.casesOn (fun _ => List Expr) x (fun _ _ _ _ _ _ _ _ _ _ => []) (fun _ _ _ _ _ _ _ _ _ _ => []) (fun _ _ _ _ _ _ _ _ _ _ _ => []) (fun _ _ => []) (fun _ _ => []) (fun _ e _ => @PySem.Expr.casesOn (fun _ => List Expr) e (fun _ _ _ => []) (fun _ _ _ => []) (fun _ _ _ _ => []) (fun _ _ _ => []) (fun _ _ _ _ => []) (fun _ _ _ _ => []) (fun _ z _ => z) (fun _ _ _ => []) (fun _ _ _ _ => []) (fun _ _ _ _ => []) (fun _ _ _ _ _ => []) (fun _ _ _ _ => []) (fun _ _ => []) (fun _ _ => []) (fun _ _ => []) (fun _ _ _ _ => []) (fun _ _ _ _ => []) (fun _ _ _ _ => []) (fun _ _ => []) (fun _ _ _ => []) (fun _ _ _ => []) (fun _ _ _ => []) (fun _ _ => []) (fun _ _ => []) (fun _ _ => []) (fun _ _ _ => []) (fun _ _ _ _ => [])) (fun _ _ _ _ _ _ _ => []) (fun _ _ _ _ => []) (fun _ _ _ _ _ => []) (fun _ _ _ _ _ => []) (fun _ _ _ _ _ => []) (fun _ _ _ _ => []) (fun _ _ _ _ => []) (fun _ _ _ => []) (fun _ _ _ => []) (fun _ _ _ => []) (fun _ _ _ => []) (fun _ _ _ _ _ => []) (fun _ _ _ _ _ => []) (fun _ _ _ => []) (fun _ _ => []) (fun _ _ _ _ => []) (fun _ _ => []) (fun _ _ => []) (fun _ _ => []) (fun _ => []) (fun _ => []) (fun _ => [])
noncomputable def dPos (x : Stmt) : Pos := @PySem.Stmt.casesOn (fun _ => Pos) x (fun _ _ _ _ _ _ _ _ _ _ => default) (fun _ _ _ _ _ _ _ _ _ _ => default) (fun _ _ _ _ _ _ _ _ _ _ _ => default) (fun _ _ => default) (fun _ _ => default) (fun _ e _ => @PySem.Expr.casesOn (fun _ => Pos) e (fun _ _ _ => default) (fun _ _ _ => default) (fun _ _ _ _ => default) (fun _ _ _ => default) (fun _ _ _ _ => default) (fun _ _ _ _ => default) (fun _ _ z => z) (fun _ _ _ => default) (fun _ _ _ _ => default) (fun _ _ _ _ => default) (fun _ _ _ _ _ => default) (fun _ _ _ _ => default) (fun _ _ => default) (fun _ _ => default) (fun _ _ => default) (fun _ _ _ _ => default) (fun _ _ _ _ => default) (fun _ _ _ _ => default) (fun _ _ => default) (fun _ _ _ => default) (fun _ _ _ => default) (fun _ _ _ => default) (fun _ _ => default) (fun _ _ => default) (fun _ _ => default) (fun _ _ _ => default) (fun _ _ _ _ => default)) (fun _ _ _ _ _ _ _ => default) (fun _ _ _ _ => default) (fun _ _ _ _ _ => default) (fun _ _ _ _ _ => default) (fun _ _ _ _ _ => default) (fun _ _ _ _ => default) (fun _ _ _ _ => default) (fun _ _ _ => default) (fun _ _ _ => default) (fun _ _ _ => default) (fun _ _ _ => default) (fun _ _ _ _ _ => default) (fun _ _ _ _ _ => default) (fun _ _ _ => default) (fun _ _ => default) (fun _ _ _ _ => default) (fun _ _ => default) (fun _ _ => default) (fun _ _ => default) (fun _ => default) (fun _ => default) (fun _ => default)
noncomputable def xs11 : List (Nat × Str) := (lits (dKeys (stm 11)) (dVals (stm 11))).getD []
noncomputable def dM : Obj := dk (mainE 37 398 xs11)
noncomputable def dS : List Obj := (subE 37 398 xs11).map dk
noncomputable def T12 (P : Params) : BT := (insL (T11 P) 134 (dM :: dS)).set 3 fun _ => gl P "cpy313.stringprep" 329 18
noncomputable def S12 (w : World) (os : OsState) : SharedT := ⟨T12 w.params, 173, {}, #[], {}, 2349, os⟩
noncomputable def incr : List (Nat × Str) → Bool
  | a :: b :: r => Nat.blt a.1 b.1 && incr (b :: r)
  | _ => true
theorem incr_nodup : ∀ {l : List (Nat × Str)}, incr l = true → (keysOf l).Nodup ∧ ∀ x ∈ l.tail, ∀ y ∈ l.head?, y.1 < x.1
  | [], _ => ⟨by simp [keysOf], by simp⟩
  | [a], _ => ⟨by simp [keysOf], by simp⟩
  | a :: b :: r, h => by
    simp only [incr, Bool.and_eq_true] at h
    have hab : a.1 < b.1 := Nat.le_of_ble_eq_true h.1
    obtain ⟨n, m⟩ := incr_nodup h.2
    have hlt : ∀ x ∈ b :: r, a.1 < x.1 := by
      intro x hx
      rcases List.mem_cons.mp hx with rfl | hx
      · exact hab
      · exact Nat.lt_trans hab (m x (by simpa using hx) b (by simp))
    refine ⟨?_, fun x hx y hy => ?_⟩
    · simp only [keysOf, List.map_cons, List.nodup_cons] at n ⊢
      refine ⟨?_, n⟩
      intro hm
      rw [← List.map_cons (f := fun x : Nat × Str => (x.1 : Int))] at hm
      obtain ⟨x, hx, e⟩ := List.mem_map.mp hm
      have := hlt x hx
      have e' : (x.1 : Int) = (a.1 : Int) := e
      omega
    · obtain rfl : y = a := by simpa using hy.symm
      exact hlt x (by simpa using hx)
set_option maxRecDepth 100000
theorem xs11_lits : lits (dKeys (stm 11)) (dVals (stm 11)) = some xs11 := by kernel_rfl
theorem xs11_incr : incr xs11 = true := by kernel_rfl
theorem xs11_length : xs11.length = 650 := by kernel_rfl
theorem ok12 (P : Params) : okL (T11 P) 134 (dM :: dS) = true := by kernel_rfl
theorem dS_length : dS.length = 38 := by kernel_rfl
noncomputable def aNm (x : Stmt) : PySem.Str := @PySem.Stmt.casesOn (fun _ => PySem.Str) x (fun _ _ _ _ _ _ _ _ _ _ => default) (fun _ _ _ _ _ _ _ _ _ _ => default) (fun _ _ _ _ _ _ _ _ _ _ _ => default) (fun _ _ => default) (fun _ _ => default) (fun l _ _ => @List.casesOn _ (fun _ => PySem.Str) l (default) (fun e _ => @PySem.Expr.casesOn (fun _ => PySem.Str) e (fun _ _ _ => default) (fun _ _ _ => default) (fun _ _ _ _ => default) (fun _ _ _ => default) (fun _ _ _ _ => default) (fun _ _ _ _ => default) (fun _ _ _ => default) (fun _ _ _ => default) (fun _ _ _ _ => default) (fun _ _ _ _ => default) (fun _ _ _ _ _ => default) (fun _ _ _ _ => default) (fun _ _ => default) (fun _ _ => default) (fun _ _ => default) (fun _ _ _ _ => default) (fun _ _ _ _ => default) (fun _ _ _ _ => default) (fun _ _ => default) (fun _ _ _ => default) (fun _ _ _ => default) (fun _ _ _ => default) (fun _ _ => default) (fun z _ => z) (fun _ _ => default) (fun _ _ _ => default) (fun _ _ _ _ => default))) (fun _ _ _ _ _ _ _ => default) (fun _ _ _ _ => default) (fun _ _ _ _ _ => default) (fun _ _ _ _ _ => default) (fun _ _ _ _ _ => default) (fun _ _ _ _ => default) (fun _ _ _ _ => default) (fun _ _ _ => default) (fun _ _ _ => default) (fun _ _ _ => default) (fun _ _ _ => default) (fun _ _ _ _ _ => default) (fun _ _ _ _ _ => default) (fun _ _ _ => default) (fun _ _ => default) (fun _ _ _ _ => default) (fun _ _ => default) (fun _ _ => default) (fun _ _ => default) (fun _ => default) (fun _ => default) (fun _ => default)
noncomputable def aNp (x : Stmt) : Pos := @PySem.Stmt.casesOn (fun _ => Pos) x (fun _ _ _ _ _ _ _ _ _ _ => default) (fun _ _ _ _ _ _ _ _ _ _ => default) (fun _ _ _ _ _ _ _ _ _ _ _ => default) (fun _ _ => default) (fun _ _ => default) (fun l _ _ => @List.casesOn _ (fun _ => Pos) l (default) (fun e _ => @PySem.Expr.casesOn (fun _ => Pos) e (fun _ _ _ => default) (fun _ _ _ => default) (fun _ _ _ _ => default) (fun _ _ _ => default) (fun _ _ _ _ => default) (fun _ _ _ _ => default) (fun _ _ _ => default) (fun _ _ _ => default) (fun _ _ _ _ => default) (fun _ _ _ _ => default) (fun _ _ _ _ _ => default) (fun _ _ _ _ => default) (fun _ _ => default) (fun _ _ => default) (fun _ _ => default) (fun _ _ _ _ => default) (fun _ _ _ _ => default) (fun _ _ _ _ => default) (fun _ _ => default) (fun _ _ _ => default) (fun _ _ _ => default) (fun _ _ _ => default) (fun _ _ => default) (fun _ z => z) (fun _ _ => default) (fun _ _ _ => default) (fun _ _ _ _ => default))) (fun _ _ _ _ _ _ _ => default) (fun _ _ _ _ => default) (fun _ _ _ _ _ => default) (fun _ _ _ _ _ => default) (fun _ _ _ _ _ => default) (fun _ _ _ _ => default) (fun _ _ _ _ => default) (fun _ _ _ => default) (fun _ _ _ => default) (fun _ _ _ => default) (fun _ _ _ => default) (fun _ _ _ _ _ => default) (fun _ _ _ _ _ => default) (fun _ _ _ => default) (fun _ _ => default) (fun _ _ _ _ => default) (fun _ _ => default) (fun _ _ => default) (fun _ _ => default) (fun _ => default) (fun _ => default) (fun _ => default)
noncomputable def aPos (x : Stmt) : Pos := @PySem.Stmt.casesOn (fun _ => Pos) x (fun _ _ _ _ _ _ _ _ _ _ => default) (fun _ _ _ _ _ _ _ _ _ _ => default) (fun _ _ _ _ _ _ _ _ _ _ _ => default) (fun _ _ => default) (fun _ _ => default) (fun _ _ z => z) (fun _ _ _ _ _ _ _ => default) (fun _ _ _ _ => default) (fun _ _ _ _ _ => default) (fun _ _ _ _ _ => default) (fun _ _ _ _ _ => default) (fun _ _ _ _ => default) (fun _ _ _ _ => default) (fun _ _ _ => default) (fun _ _ _ => default) (fun _ _ _ => default) (fun _ _ _ => default) (fun _ _ _ _ _ => default) (fun _ _ _ _ _ => default) (fun _ _ _ => default) (fun _ _ => default) (fun _ _ _ _ => default) (fun _ _ => default) (fun _ _ => default) (fun _ _ => default) (fun _ => default) (fun _ => default) (fun _ => default)
noncomputable abbrev dE : Expr := .Dict (dKeys (stm 11)) (dVals (stm 11)) (dPos (stm 11))
theorem stm11 : stm 11 = .Assign [.Name (aNm (stm 11)) (aNp (stm 11))] dE (aPos (stm 11)) := by kernel_rfl
theorem swap11 : swapsWith dE (some (.Name (aNm (stm 11)) (aNp (stm 11)))) (aPos (stm 11)).line eN = pure false := by kernel_rfl
noncomputable abbrev rest11 : Sem Flow := do standAt (aNp (stm 11)); bindName eN (aNm (stm 11)) (.ref 134); pure .next
noncomputable def S11d (w : World) (os : OsState) : SharedT := ⟨insL (T11 w.params) 134 (dM :: dS), 173, {}, #[], {}, 2348, os⟩
theorem rest11_T : ∃ n, ∀ (w : World) (os : OsState) b p K H gd lv, segGoT treeTable pw w 11 (some (.ref 6)) 1 n (S11d w os) (th rest11 b p K H gd lv) = some (S12 w os, ⟨K .next, cB b, q12, [topFrame q0]⟩) := by
  rw [PySem.W.Fast.te10295753902157049106, PySem.W.Fast.te14364793385576792824]
  first
  | exact ⟨5, by intro w os b p K H gd lv; kernel_rfl!⟩
  | exact ⟨6, by intro w os b p K H gd lv; kernel_rfl!⟩
  | exact ⟨7, by intro w os b p K H gd lv; kernel_rfl!⟩
  | exact ⟨8, by intro w os b p K H gd lv; kernel_rfl!⟩
  | exact ⟨4, by intro w os b p K H gd lv; kernel_rfl!⟩
theorem S11d_abs (w : World) (os : OsState) : (S11d w os).abs = ⟨hp (absHeap (T11 w.params) 134 {}) (dM :: dS), #[], {}, 2348, os⟩ := by
  have := abs_insL (life := {}) (dM :: dS) (T11 w.params) 134 (ok12 w.params)
  rw [show 134 + (dM :: dS).length = 173 by simp only [List.length_cons, dS_length]] at this
  unfold S11d SharedT.abs
  dsimp only
  rw [this]
theorem hp_nil (h : Heap) : hp h [] = h := by
  unfold hp
  show Heap.mk _ _ = h
  obtain ⟨o, l⟩ := h
  simp
theorem ev_assign {s s1 s2 : SW} {v : Expr} {nm : PySem.Str} {pos p2 np : Pos} {env : Env} {x : Value} (h1 : swapsWith v (some (.Name nm np)) pos.line env = pure false) (h2 : Ex (eval v env) s x s1)
    (h3 : ∀ p, Ev (do standAt np; bindName env nm x; pure Flow.next) s1 p .next s2 p2) (p : Pos) : Ev (execs [.Assign [.Name nm np] v pos] env) s p .next s2 p2 := by
  rw [execs_cons, exec_Assign_Name env nm np v pos h1]
  obtain ⟨p1, h⟩ := h2 pos
  exact ev_bind (a := Flow.next) (ev_bind ev_at (ev_bind h (h3 p1))) ev_pure
theorem hb11 (P : Params) : (absHeap (T11 P) 134 {}).objs.size = 134 := absHeap_size _ _ _
noncomputable def B11 : Base := ⟨fun w => absHeap (T11 w.params) 134 {}, 134, fun w => hb11 w.params⟩
theorem l1 : 17 * (37 + 1) < xs11.length := by rw [xs11_length]; decide
theorem l2 : xs11.length ≤ 17 * (37 + 1) + 15 := by rw [xs11_length]; decide
theorem l3 : xs11.length < 1000 := by rw [xs11_length]; decide
theorem dict11a (h : Base) (hb : 11 ≤ h.z) : Ex (eval dE eN) (St h [] #[] {} 398) (.ref (h.z + 0)) (St h (dM :: dS) #[] {} (398 + 3 * xs11.length)) :=
  ex_dict hb xs11_lits l1 l2 l3 (incr_nodup xs11_incr).1
theorem dict11b : Ex (eval dE eN) (St B11 [] #[] {} 398) (.ref 134) (St B11 (dM :: dS) #[] {} 2348) := by
  have := dict11a B11 (by show 11 ≤ 134; decide)
  rw [xs11_length] at this
  exact this
theorem st_S11 : St B11 [] #[] {} 398 = fun w os => (S11 w os).abs := by
  funext w os
  unfold St
  rw [hp_nil]
  kernel_rfl
theorem st_S11d : St B11 (dM :: dS) #[] {} 2348 = fun w os => (S11d w os).abs := by
  funext w os
  rw [S11d_abs]
  unfold St B11
  dsimp only
theorem ev11 (p : Pos) : Ev (execs [stm 11] eN) (fun w os => (S11 w os).abs) p .next (fun w os => (S12 w os).abs) q12 := by
  obtain ⟨n, hn⟩ := rest11_T
  have hd := dict11b
  rw [st_S11, st_S11d] at hd
  have := ev_assign (s2 := fun w os => (S12 w os).abs) (p2 := q12) swap11 hd (fun p => ⟨n, fun w os b K H gd lv => segGo_of (hn w os b p K H gd lv)⟩) p
  rw [← stm11] at this
  exact this
theorem p11 : ∃ N, ∀ (w : World) (os : OsState) (b : List Stmt), sR w N (S11 w os).abs (piecesOf [stm 11] eN (cB b) q11 [topFrame q0]) = some (.next, (S12 w os).abs, cB b, q12) := by
  obtain ⟨n, hn⟩ := ev11 q11
  exact ⟨n + 1, fun w os b => seg_go (hn w os b doneF deadEnd id id) rfl⟩
end
section
open PySem PySem.W PySem.Calls PyProof.Rows
set_option linter.unusedVariables false
noncomputable def L31 (P : Params) : List Obj := [o173 P, o174 P, o175 P, o176 P, o177 P, o178 P, o179 P, o180 P, o181 P, o182 P, o183 P, o184 P, o185 P, o186 P, o187 P, o188 P, o189 P, o190 P, o191 P, o192 P, o193 P, o194 P, o195 P, o196 P, o197 P, o198 P, o199 P, o200 P, o201 P, o202 P, o203 P, o204 P, o205 P, o206 P, o207 P, o208 P, o209 P, o210 P, o211 P, o212 P, o213 P, o214 P, o215 P, o216 P, o217 P, o218 P, o219 P, o220 P, o221 P, o222 P, o223 P, o224 P, o225 P, o226 P, o227 P, o228 P, o229 P, o230 P, o231 P, o232 P, o233 P, o234 P, o235 P, o236 P, o237 P, o238 P, o239 P, o240 P, o241 P, o242 P, o243 P, o244 P, o245 P, o246 P, o247 P, o248 P, o249 P, o250 P, o251 P, o252 P, o253 P, o254 P, o255 P, o256 P, o257 P, o258 P, o259 P, o260 P, o261 P, o262 P, o263 P, o264 P, o265 P, o266 P, o267 P, o268 P, o269 P, o270 P, o271 P, o272 P, o273 P, o274 P, o275 P, o276 P, o277 P, o278 P, o279 P, o280 P, o281 P]
noncomputable def T31 (P : Params) : BT := insL (((T12 P).set 3 fun _ => o3 P).set 12 fun _ => o12 P) 173 (L31 P)
noncomputable def S31 (w : World) (os : OsState) : SharedT := ⟨T31 w.params, 282, {}, #[], {}, 2477, os⟩
noncomputable abbrev sts31 : List Stmt := [stm 12, stm 13, stm 14, stm 15, stm 16, stm 17, stm 18, stm 19, stm 20, stm 21, stm 22, stm 23, stm 24, stm 25, stm 26, stm 27, stm 28, stm 29, stm 30]
set_option maxRecDepth 100000
theorem p31 (b : List Stmt) (w : World) (os : OsState) : segRunT treeTable pw w 11 (some (.ref 6)) 1 507 (S12 w os) (piecesOf sts31 eN (cB b) q12 [topFrame q0]) = some (.next, S31 w os, cB b, q31) := by
  rw [PySem.W.Fast.te10110043849684766642, PySem.W.Fast.te14364793385576792824]
  kernel_rfl
end
section
open PySem PySem.W PySem.Calls PyProof.Rows
set_option linter.unusedVariables false
set_option maxRecDepth 100000
noncomputable def o2 (P : Params) : Obj := ⟨.none, none, .dict #[] 0, #[]⟩
noncomputable def K (P : Params) : Frag := (nat_lit 2, o2 P) :: (nat_lit 3, o3 P) :: (nat_lit 15, o15 P) :: (nat_lit 17, o17 P) :: (nat_lit 18, o18 P) :: (nat_lit 20, o20 P) :: (nat_lit 21, o21 P) :: (nat_lit 32, o32 P) :: (nat_lit 34, o34 P) :: (nat_lit 35, o35 P) :: (nat_lit 37, o37 P) :: (nat_lit 38, o38 P) :: (nat_lit 39, o39 P) :: (nat_lit 41, o41 P) :: (nat_lit 42, o42 P) :: (nat_lit 44, o44 P) :: (nat_lit 45, o45 P) :: (nat_lit 46, o46 P) :: (nat_lit 48, o48 P) :: (nat_lit 49, o49 P) :: (nat_lit 51, o51 P) :: (nat_lit 52, o52 P) :: (nat_lit 53, o53 P) :: (nat_lit 55, o55 P) :: (nat_lit 56, o56 P) :: (nat_lit 58, o58 P) :: (nat_lit 59, o59 P) :: (nat_lit 60, o60 P) :: (nat_lit 62, o62 P) :: (nat_lit 63, o63 P) :: (nat_lit 65, o65 P) :: (nat_lit 66, o66 P) :: (nat_lit 67, o67 P) :: (nat_lit 69, o69 P) :: (nat_lit 70, o70 P) :: (nat_lit 72, o72 P) :: (nat_lit 73, o73 P) :: (nat_lit 74, o74 P) :: (nat_lit 76, o76 P) :: (nat_lit 77, o77 P) :: (nat_lit 79, o79 P) :: (nat_lit 80, o80 P) :: (nat_lit 81, o81 P) :: (nat_lit 82, o82 P) :: (nat_lit 83, o83 P) :: (nat_lit 84, o84 P) :: (nat_lit 85, o85 P) :: (nat_lit 88, o88 P) :: (nat_lit 90, o90 P) :: (nat_lit 91, o91 P) :: (nat_lit 93, o93 P) :: (nat_lit 94, o94 P) :: (nat_lit 95, o95 P) :: (nat_lit 97, o97 P) :: (nat_lit 98, o98 P) :: (nat_lit 100, o100 P) :: (nat_lit 101, o101 P) :: (nat_lit 102, o102 P) :: (nat_lit 104, o104 P) :: (nat_lit 105, o105 P) :: (nat_lit 107, o107 P) :: (nat_lit 108, o108 P) :: (nat_lit 109, o109 P) :: (nat_lit 111, o111 P) :: (nat_lit 112, o112 P) :: (nat_lit 114, o114 P) :: (nat_lit 115, o115 P) :: (nat_lit 123, o123 P) :: (nat_lit 127, o127 P) :: (nat_lit 129, o129 P) :: (nat_lit 130, o130 P) :: (nat_lit 132, o132 P) :: (nat_lit 133, o133 P) :: (nat_lit 134, dM) :: (nat_lit 173, o173 P) :: (nat_lit 175, o175 P) :: (nat_lit 176, o176 P) :: (nat_lit 178, o178 P) :: (nat_lit 179, o179 P) :: (nat_lit 180, o180 P) :: (nat_lit 182, o182 P) :: (nat_lit 183, o183 P) :: (nat_lit 185, o185 P) :: (nat_lit 186, o186 P) :: (nat_lit 187, o187 P) :: (nat_lit 189, o189 P) :: (nat_lit 190, o190 P) :: (nat_lit 192, o192 P) :: (nat_lit 193, o193 P) :: (nat_lit 194, o194 P) :: (nat_lit 196, o196 P) :: (nat_lit 197, o197 P) :: (nat_lit 199, o199 P) :: (nat_lit 200, o200 P) :: (nat_lit 201, o201 P) :: (nat_lit 203, o203 P) :: (nat_lit 204, o204 P) :: (nat_lit 206, o206 P) :: (nat_lit 207, o207 P) :: (nat_lit 208, o208 P) :: (nat_lit 210, o210 P) :: (nat_lit 211, o211 P) :: (nat_lit 213, o213 P) :: (nat_lit 214, o214 P) :: (nat_lit 215, o215 P) :: (nat_lit 217, o217 P) :: (nat_lit 218, o218 P) :: (nat_lit 220, o220 P) :: (nat_lit 221, o221 P) :: (nat_lit 222, o222 P) :: (nat_lit 225, o225 P) :: (nat_lit 226, o226 P) :: (nat_lit 227, o227 P) :: (nat_lit 229, o229 P) :: (nat_lit 230, o230 P) :: (nat_lit 232, o232 P) :: (nat_lit 233, o233 P) :: (nat_lit 234, o234 P) :: (nat_lit 236, o236 P) :: (nat_lit 237, o237 P) :: (nat_lit 239, o239 P) :: (nat_lit 240, o240 P) :: (nat_lit 241, o241 P) :: (nat_lit 243, o243 P) :: (nat_lit 244, o244 P) :: (nat_lit 246, o246 P) :: (nat_lit 247, o247 P) :: (nat_lit 248, o248 P) :: (nat_lit 251, o251 P) :: (nat_lit 252, o252 P) :: (nat_lit 253, o253 P) :: (nat_lit 256, o256 P) :: (nat_lit 257, o257 P) :: (nat_lit 258, o258 P) :: (nat_lit 260, o260 P) :: (nat_lit 261, o261 P) :: (nat_lit 263, o263 P) :: (nat_lit 264, o264 P) :: (nat_lit 265, o265 P) :: (nat_lit 267, o267 P) :: (nat_lit 268, o268 P) :: (nat_lit 270, o270 P) :: (nat_lit 271, o271 P) :: (nat_lit 272, o272 P) :: (nat_lit 275, o275 P) :: (nat_lit 276, o276 P) :: (nat_lit 277, o277 P) :: (nat_lit 280, o280 P) :: (nat_lit 281, o281 P) :: []
noncomputable def kA : List Addr := nat_lit 2 :: nat_lit 3 :: nat_lit 15 :: nat_lit 17 :: nat_lit 18 :: nat_lit 20 :: nat_lit 21 :: nat_lit 32 :: nat_lit 34 :: nat_lit 35 :: nat_lit 37 :: nat_lit 38 :: nat_lit 39 :: nat_lit 41 :: nat_lit 42 :: nat_lit 44 :: nat_lit 45 :: nat_lit 46 :: nat_lit 48 :: nat_lit 49 :: nat_lit 51 :: nat_lit 52 :: nat_lit 53 :: nat_lit 55 :: nat_lit 56 :: nat_lit 58 :: nat_lit 59 :: nat_lit 60 :: nat_lit 62 :: nat_lit 63 :: nat_lit 65 :: nat_lit 66 :: nat_lit 67 :: nat_lit 69 :: nat_lit 70 :: nat_lit 72 :: nat_lit 73 :: nat_lit 74 :: nat_lit 76 :: nat_lit 77 :: nat_lit 79 :: nat_lit 80 :: nat_lit 81 :: nat_lit 82 :: nat_lit 83 :: nat_lit 84 :: nat_lit 85 :: nat_lit 88 :: nat_lit 90 :: nat_lit 91 :: nat_lit 93 :: nat_lit 94 :: nat_lit 95 :: nat_lit 97 :: nat_lit 98 :: nat_lit 100 :: nat_lit 101 :: nat_lit 102 :: nat_lit 104 :: nat_lit 105 :: nat_lit 107 :: nat_lit 108 :: nat_lit 109 :: nat_lit 111 :: nat_lit 112 :: nat_lit 114 :: nat_lit 115 :: nat_lit 123 :: nat_lit 127 :: nat_lit 129 :: nat_lit 130 :: nat_lit 132 :: nat_lit 133 :: nat_lit 134 :: nat_lit 173 :: nat_lit 175 :: nat_lit 176 :: nat_lit 178 :: nat_lit 179 :: nat_lit 180 :: nat_lit 182 :: nat_lit 183 :: nat_lit 185 :: nat_lit 186 :: nat_lit 187 :: nat_lit 189 :: nat_lit 190 :: nat_lit 192 :: nat_lit 193 :: nat_lit 194 :: nat_lit 196 :: nat_lit 197 :: nat_lit 199 :: nat_lit 200 :: nat_lit 201 :: nat_lit 203 :: nat_lit 204 :: nat_lit 206 :: nat_lit 207 :: nat_lit 208 :: nat_lit 210 :: nat_lit 211 :: nat_lit 213 :: nat_lit 214 :: nat_lit 215 :: nat_lit 217 :: nat_lit 218 :: nat_lit 220 :: nat_lit 221 :: nat_lit 222 :: nat_lit 225 :: nat_lit 226 :: nat_lit 227 :: nat_lit 229 :: nat_lit 230 :: nat_lit 232 :: nat_lit 233 :: nat_lit 234 :: nat_lit 236 :: nat_lit 237 :: nat_lit 239 :: nat_lit 240 :: nat_lit 241 :: nat_lit 243 :: nat_lit 244 :: nat_lit 246 :: nat_lit 247 :: nat_lit 248 :: nat_lit 251 :: nat_lit 252 :: nat_lit 253 :: nat_lit 256 :: nat_lit 257 :: nat_lit 258 :: nat_lit 260 :: nat_lit 261 :: nat_lit 263 :: nat_lit 264 :: nat_lit 265 :: nat_lit 267 :: nat_lit 268 :: nat_lit 270 :: nat_lit 271 :: nat_lit 272 :: nat_lit 275 :: nat_lit 276 :: nat_lit 277 :: nat_lit 280 :: nat_lit 281 :: []
set_option maxRecDepth 100000
theorem kA_eq : ∀ P, kA = (K P).map (·.1) := fun _ => by kernel_rfl
noncomputable def qV : Program := view pw [0, 2, 4, 5, 6, 7, 9, 10, 11, 12, 14, 15, 16, 17, 18, 19, 21, 22, 23, 24, 25, 26, 27, 28, 29, 30]
noncomputable def looseN : List PySem.Str := [.ofString "Whitespace", .ofString "b1_set", .ofString "b3_exceptions"]
noncomputable def xT (s : Shared) : Bool := xlAt qV [] s && recOk [] s
noncomputable def H31 (P : Params) : Heap := absHeap (T31 P) 282 {}
noncomputable def s31 (w : World) (os : OsState) : Shared := ⟨H31 w.params, #[], {}, 2477, os⟩
theorem look1 (w : World) (os : OsState) : (staticsOk (importedModules pw.main.body) (boot_heap w.params) (H31 w.params) && namesBound pw (H31 w.params) && gensDone (s31 w os) && laidKept (boot_heap w.params) (H31 w.params)) = true := by
  rw [PySem.W.Fast.te5923862056798008813]
  kernel_rfl
theorem look3 (w : World) (os : OsState) : kA.map (s31 w os).heap.get? = (K w.params).map fun p => some p.2 := by
  kernel_rfl
end
section
open PySem PySem.W PySem.Calls PyProof.Rows
set_option linter.unusedVariables false
set_option maxRecDepth 100000
noncomputable abbrev sn (w : World) (os : OsState) := openSeen qV looseN (importedModules pw.main.body) xT true (s31 w os)
theorem look_1 (w : World) (os : OsState) : (sn w os).1 = expectedOf qV := by
  unfold sn
  rw [PySem.W.Fast.te5923862056798008813, PySem.W.Fast.te4187177175401517315]
  try rw [PySem.W.Fast.te3247288618530077131]
  try rw [PySem.W.Fast.te821141287760084731]
  kernel_rfl
theorem look_2 (w : World) (os : OsState) : (sn w os).2.1 = bltViewBooted := by
  unfold sn
  rw [PySem.W.Fast.te5923862056798008813, PySem.W.Fast.te4187177175401517315]
  kernel_rfl
theorem lk_k (w : World) (os : OsState) : (s31 w os).heap.keysOk (looseW qV looseN) ((recsOf qV).map (·.name)) ((litsOf qV).map (·.1)) ((clssOf qV (looseW qV looseN)).map (·.name)) = true := by
  rw [PySem.W.Fast.te10880121769531294198, PySem.W.Fast.te3399658132070893891, PySem.W.Fast.te821141287760084731]
  kernel_rfl
theorem lk_a (w : World) (os : OsState) : (s31 w os).heap.accountedOkI (importedModules pw.main.body) = true := by
  rw [PySem.W.Fast.te5923862056798008813, PySem.W.Fast.te14722251495701143533]
  kernel_rfl
theorem lk_n (w : World) (os : OsState) : ((s31 w os).heap.isNs mainGlobals && (s31 w os).heap.isNs builtinsNs) = true := by kernel_rfl
noncomputable def cvP (p : Nat × Str) : PyData × PyData := (.int p.1, .str p.2)
theorem has_map (k : Int) (l : List (Nat × Str)) : hasIntKey k (l.map cvP) = true → k ∈ keysOf l := by
  induction l with
  | nil => intro h; cases h
  | cons p r ih =>
    intro h
    rcases (Bool.or_eq_true _ _).mp h with e | h
    · exact List.mem_cons.mpr (.inl (eq_of_beq e).symm)
    · exact List.mem_cons_of_mem _ (ih h)
theorem apart_map (l : List (Nat × Str)) : (keysOf l).Nodup → keysApartInt (l.map cvP) = true := by
  induction l with
  | nil => intro _; rfl
  | cons p r ih =>
    intro h
    have h' := List.nodup_cons.mp h
    refine Bool.and_eq_true_iff.mpr ⟨?_, ih h'.2⟩
    cases hq : hasIntKey (p.1 : Int) (r.map cvP) with
    | false => rfl
    | true => exact absurd (has_map _ _ hq) h'.1
theorem tabInt_inc {h : Heap} {x : PySem.Str} {D : List (PyData × PyData)} {a : Addr} {o : Obj} {n : String} {es : Array DictEntry} {ep : Nat} (h1 : h.nsMap mainGlobals x = some (.ref a)) (h2 : h.get? a = some o) (h3 : o.cls = .type n) (h4 : o.dict = none) (h5 : o.data = .dict es ep)
    (h6 : ((n == "dict") && (o.slots.size == 0) && entriesAreInt es.toList D) = true) (h7 : (a != sysModules) = true) (h8 : keysApartInt D = true) : h.tabIntOk x D = true := by
  unfold Heap.tabIntOk
  simp only [h1, h2, h3, h4, h5, h6, h7, h8, Bool.and_self]
noncomputable def b3N : PySem.Str := .ofString "b3_exceptions"
noncomputable abbrev D11 : List (PyData × PyData) := xs11.map cvP
theorem t_a : tupIntsOf qV b3N = none := by kernel_rfl
theorem t_b : tupStrsOf qV b3N = none := by kernel_rfl
theorem t_c : tabIntOf qV b3N = some D11 := by kernel_rfl
theorem t_e (w : World) (os : OsState) : (s31 w os).heap.tabIntOk b3N D11 = true := by
  refine tabInt_inc (a := 134) (o := dM) (n := "dict") (es := (mainE 37 398 xs11).toArray) (ep := (mainE 37 398 xs11).length) ?_ ?_ ?_ ?_ ?_ ?_ (by decide) (apart_map xs11 (incr_nodup xs11_incr).1)
  all_goals kernel_rfl
theorem lk_t (w : World) (os : OsState) : tablesOk qV (s31 w os).heap = true := by
  have all : ((valNames qV).all fun x => (x == b3N) || ((match tupIntsOf qV x with | some ns => (s31 w os).heap.tupIntsOk x ns | none => true) && (match tupStrsOf qV x with | some ss => (s31 w os).heap.tupStrsOk x ss | none => true) && (match tabIntOf qV x with | some D => (s31 w os).heap.tabIntOk x D | none => true))) = true := by kernel_rfl
  unfold tablesOk
  rw [List.all_eq_true] at all ⊢
  intro x hx
  rcases (Bool.or_eq_true _ _).mp (all x hx) with e | e
  · rw [eq_of_beq e, t_a, t_b, t_c]
    simp only [t_e w os, Bool.and_self]
  · exact e
theorem lk_x (w : World) (os : OsState) : xT (s31 w os) = true := by kernel_rfl
theorem look_3 (w : World) (os : OsState) : (sn w os).2.2.1 = true := by
  unfold sn openSeen
  dsimp only
  rw [lk_k, lk_a, lk_t, lk_x, (Bool.and_eq_true_iff.mp (lk_n w os)).1, (Bool.and_eq_true_iff.mp (lk_n w os)).2]
  rfl
theorem look_4 (w : World) (os : OsState) : (sn w os).2.2.2.1 = true := by
  unfold sn
  rw [PySem.W.Fast.te5923862056798008813, PySem.W.Fast.te4187177175401517315]
  try rw [PySem.W.Fast.te3247288618530077131]
  try rw [PySem.W.Fast.te821141287760084731]
  kernel_rfl
theorem look_5 (w : World) (os : OsState) : (sn w os).2.2.2.2.1 = pinGoodD (drecsOf qV) := by
  unfold sn
  rw [PySem.W.Fast.te5923862056798008813, PySem.W.Fast.te4187177175401517315]
  try rw [PySem.W.Fast.te3247288618530077131]
  try rw [PySem.W.Fast.te821141287760084731]
  kernel_rfl
theorem look_6 (w : World) (os : OsState) : (sn w os).2.2.2.2.2.1 = plainGoodE qV (looseW qV looseN) := by
  unfold sn
  rw [PySem.W.Fast.te5923862056798008813, PySem.W.Fast.te4187177175401517315]
  try rw [PySem.W.Fast.te3247288618530077131]
  try rw [PySem.W.Fast.te821141287760084731]
  kernel_rfl
theorem look_7 (w : World) (os : OsState) : (sn w os).2.2.2.2.2.2.1 = plainGoodD qV looseN := by
  unfold sn
  rw [PySem.W.Fast.te5923862056798008813, PySem.W.Fast.te4187177175401517315]
  try rw [PySem.W.Fast.te3247288618530077131]
  try rw [PySem.W.Fast.te821141287760084731]
  kernel_rfl
theorem look_8 (w : World) (os : OsState) : (sn w os).2.2.2.2.2.2.2.1 = wideGood qV := by
  unfold sn
  rw [PySem.W.Fast.te5923862056798008813, PySem.W.Fast.te4187177175401517315]
  try rw [PySem.W.Fast.te3247288618530077131]
  try rw [PySem.W.Fast.te821141287760084731]
  kernel_rfl
theorem look_9 (w : World) (os : OsState) : (sn w os).2.2.2.2.2.2.2.2 = clsGoodW qV looseN := by
  unfold sn
  rw [PySem.W.Fast.te5923862056798008813, PySem.W.Fast.te4187177175401517315]
  try rw [PySem.W.Fast.te3247288618530077131]
  try rw [PySem.W.Fast.te821141287760084731]
  kernel_rfl
theorem look2 (w : World) (os : OsState) : openSeen qV looseN (importedModules pw.main.body) xT true (s31 w os) = openGood qV looseN :=
  Prod.ext (look_1 w os) (Prod.ext (look_2 w os) (Prod.ext (look_3 w os) (Prod.ext (look_4 w os) (Prod.ext (look_5 w os) (Prod.ext (look_6 w os) (Prod.ext (look_7 w os) (Prod.ext (look_8 w os) (look_9 w os))))))))
end
section
open PySem PySem.W PySem.Calls PyProof.Rows
set_option linter.unusedVariables false
set_option maxRecDepth 100000
noncomputable abbrev bB : List Stmt := behindTheImports pw
noncomputable def S0 (w : World) (os : OsState) : Shared := ⟨boot_heap w.params, #[], boot_drawn, boot_toks, os⟩
theorem body_is : bB = [stm 0, stm 1, stm 2, stm 3, stm 4, stm 5, stm 6, stm 7, stm 8] ++ ([stm 9, stm 10] ++ ([stm 11] ++ (sts31 ++ []))) := by kernel_rfl
theorem pre_go (w : World) (os : OsState) : topGo treeTable pw w 11 (some (.ref 6)) 12 (S0 w os) (topStub pw) = some ((Sb w os).abs, ⟨denote treeTable (cB bB), cB bB, q0, [topFrame q0]⟩) := by
  rw [PySem.W.Fast.te15667345088766844465, PySem.W.Fast.te14364793385576792824, PySem.W.Fast.te11892475500146522536]
  kernel_rfl
theorem block_go (w : World) (os : OsState) : sR w 1 (Sb w os).abs (blockOf bB eN (cB bB) q0 [topFrame q0]) = some (.next, (Sb w os).abs, cB bB, q0) := by
  show segRun treeTable pw w 11 (some (.ref 6)) 1 1 _ _ = _
  rw [PySem.W.Fast.te14374325043358763698, PySem.W.Fast.te14364793385576792824]
  kernel_rfl
theorem fin_go (w : World) (os : OsState) : topRun treeTable pw w 11 (some (.ref 6)) 2 (s31 w os) ⟨doneF .next, cB bB, q31, [topFrame q0]⟩ = some (s31 w os) := by
  rw [PySem.W.Fast.te14082659384304107361, PySem.W.Fast.te14364793385576792824]
  kernel_rfl
theorem s31_is (w : World) (os : OsState) : (S31 w os).abs = s31 w os := by kernel_rfl
theorem g9 (w : World) (os : OsState) : segRun treeTable pw w 11 (some (.ref 6)) 1 1028 (SharedT.abs { tree := T115 w.params, n := 116, life := {}, gens := { toList := [] }, drawn := {}, toks := 331, os := os }) (piecesOf [stm 9, stm 10] eN (cB bB) q1 [topFrame q0]) = some (.next, (S11 w os).abs, cB bB, q11) :=
  segRun_of (p9 bB w os)
theorem g0 (w : World) (os : OsState) : segRun treeTable pw w 11 (some (.ref 6)) 1 670 (Sb w os).abs (piecesOf [stm 0, stm 1, stm 2, stm 3, stm 4, stm 5, stm 6, stm 7, stm 8] eN (cB bB) q0 [topFrame q0]) = some (.next, (S9 w os).abs, cB bB, q1) :=
  segRun_of (p0 bB w os)
theorem g31 (w : World) (os : OsState) : segRun treeTable pw w 11 (some (.ref 6)) 1 507 (S12 w os).abs (piecesOf sts31 eN (cB bB) q12 [topFrame q0]) = some (.next, s31 w os, cB bB, q31) := by
  rw [← s31_is]
  exact segRun_of (p31 bB w os)
theorem run_tail : ∃ M, ∀ (w : World) (os : OsState), topRun treeTable pw w 11 (some (.ref 6)) M (SharedT.abs { tree := T115 w.params, n := 116, life := {}, gens := { toList := [] }, drawn := {}, toks := 331, os := os })
    (restOf ([stm 9, stm 10] ++ ([stm 11] ++ (sts31 ++ []))) eN (cB bB) q1 [topFrame q0]) = some (s31 w os) := by
  obtain ⟨N, h11⟩ := p11
  exact ⟨_, fun w os => piece_app (g9 w os) (piece_app (h11 w os bB) (piece_app (g31 w os) (piece_nil (fin_go w os))))⟩
theorem run_all : ∃ M, ∀ (w : World) (os : OsState), topRun treeTable pw w 11 (some (.ref 6)) M (S0 w os) (topStub pw) = some (s31 w os) := by
  obtain ⟨N, k1⟩ := run_tail
  refine ⟨12 + (1 + Nat.add 670 N), fun w os => ?_⟩
  have k2 := piece_app (g0 w os) (k1 w os)
  rw [← body_is] at k2
  exact go_top (pre_go w os) (piece_block (block_go w os) k2)
theorem open_is : opening pw = plainProg pw.main.scope.names := by kernel_rfl
theorem fence_is : ∀ s, fenceModules? pw s = some s := fun s => by kernel_rfl
theorem size_is (w : World) : ((boot_heap w.params).isNs mainGlobals && (#[] : Array GenState).size == 0, (boot_heap w.params).objs.size, (boot_heap w.params).nsMap mainGlobals "__annotations__") = (true, 11, some (.ref 6)) := by kernel_rfl
noncomputable abbrev hookK : Hook := kHook K kA kA_eq
theorem left : ∃ N, LeftO pw qV looseN xT hookK.obs hookK.val N true := by
  obtain ⟨M, hM⟩ := run_all
  refine ⟨M + 600, LeftO.of_pieces (H₀ := boot_heap) (H₁ := H31) (gs₀ := #[]) (gs₁ := #[]) (d₀ := boot_drawn) (d₁ := {}) (k₀ := boot_toks) (k₁ := 2477) (m₀ := 11) (ann := some (.ref 6)) (M := M)
    (boot_open open_is (Nat.ble_eq_true_of_le (by omega)) fence_is) size_is (fun w os => hM w os) (Nat.ble_eq_true_of_le (by omega)) (fun w => funext fun os => ?_)⟩
  exact Prod.ext (look1 w os) (Prod.ext (look2 w os) (look3 w os))
end
open PySem PySem.W PySem.Calls PyProof.Rows
section
set_option linter.unusedVariables false
set_option maxRecDepth 100000
theorem code_defL {prog : Program} {w : World} {A A₀ : Around} {s : Shared} {K : Frag} {L : Addr} {h₀ base : Heap} {m mg mb : PySem.Str → Option Value} {news : List (Addr × Obj)} {p : Program} {loose : List PySem.Str} {mean : ExcName → Option Value}
    {env : Env} {outer : List Env} {R : Result → Shared → Prop} {name qual : PySem.Str} {params params' : Arguments} {body body' : List Stmt} {scope scope' : Scope} {dV kV doc pm cdv ct oc : Value} {an od : Option Addr} {osl : Array (Option Value)} {f : Addr} {args : Args} {binds : List (PySem.Str × Value)}
    (B : Below A₀ base outer h₀) (F : Fr h₀ L s.heap m) (X₀ : K.In h₀) (N : News h₀ L s.heap news) (T : Top p loose mean mg mb h₀) (hA : A.frames = some (env :: outer)) (hf : env.frame = some L) (hke : env.scope.kind = .function)
    (ho : K.lookup f = some ⟨oc, od, .func (fnOf name qual params' body' scope' dV kV doc pm an cdv ct), osl⟩) (hp : params' = params) (hb : body' = body) (hs : scope' = scope) (hcd : codeIn K cdv qual = true) (hroom : A.depth < recursionLimit)
    (hbind : BindsTo s (fnOf name qual params body scope dV kV doc pm an cdv ct) args binds) (hloc : ∀ y ∈ binds, scope.names.lookup y.1 = some .local)
    (h : ∀ g L' h₁, Fr h₀ L g m → Fr g L' h₁ (fun y => binds.reverse.lookup y) → News g L' h₁ news → Below A base (env :: outer) g → K.In g → Top p loose mean mg mb g →
      wpAny (model prog w) (A.deeper (envOf qual scope L' f cdv)) (execs body (envOf qual scope L' f cdv))
        (fun fl s' => LeaveK h₀ L m g R (match fl with | .ret v => v | _ => .none) s')
        (fun e s' => wpAny (model prog w) (A.deeper (envOf qual scope L' f cdv)) («leaving» (envOf qual scope L' f cdv) e) (fun _ s'' => R (.error e) s'') (fun e' s'' => R (.error e') s'') s')
        { s with heap := h₁, toks := s.toks + binds.length })
    (hco : scope.isCoroutine = false) (hgen : scope.isGenerator = false) (hk : scope.kind = .function)
    (hcell : ∀ x ∈ scope.names, x.2 ≠ .cell) : codeAny (model prog w) A (.call (.ref f) args) R s := by
  subst hp hb hs
  exact code_def B F X₀ N T hA hf hke ho hcd hroom hbind hloc h hco hgen hk hcell
theorem fill : ∀ (w : World) (h : Heap), (K w.params).In h → PySem.Challenge.rw_tc0088_01 = PySem.Challenge.rw_tc0088_01 := by
  k_fill
  intros
  rfl
end
local macro_rules | `(tactic| ktr_room) => `(tactic| first | exact room_a (by assumption) (by with_unfolding_all rfl) | exact room_b (by assumption) (by with_unfolding_all rfl) | exact room_c (by assumption) | fail)
local macro_rules | `(tactic| ke_room) => `(tactic| first | exact room_a (by assumption) (by with_unfolding_all rfl) | exact room_b (by assumption) (by with_unfolding_all rfl) | exact room_c (by assumption) | fail)
local macro_rules | `(tactic| walk_at "mine.half") => `(tactic| with_reducible first | exact c_1_2 | exact c_1_3 | exact c_1_4 | exact c_1_5 | exact c_1_6 | exact c_1_7 | exact c_1_8 | exact c_1_9 | exact c_1_10)
local macro_rules | `(tactic| walk_at "mine.cells") => `(tactic| first | walk_at "mine.half" | (refine Ne.symm ?_; walk_at "mine.half"))
theorem gen_toks_0 {M : Model} {A : Around} {α : Type} {t : Sem α} {Q : α → Shared → Prop} {E : Value → Shared → Prop} {hp : Heap} {g : Array GenState} {d : Drawn} {a b : Nat} {os : OsState} (h0 : 0 < a + b) (h : ∀ tk, 0 < tk → wpAny M A t Q E ⟨hp, g, d, tk, os⟩) : wpAny M A t Q E ⟨hp, g, d, a + b, os⟩ := h _ h0
section
set_option linter.unusedVariables false
set_option maxRecDepth 100000
theorem code_defCL {prog : Program} {w : World} {A A₀ : Around} {s : Shared} {K : Frag} {L : Addr} {h₀ base : Heap} {m mg mb : PySem.Str → Option Value} {news : List (Addr × Obj)} {p : Program} {loose : List PySem.Str} {mean : ExcName → Option Value}
    {env : Env} {outer : List Env} {R : Result → Shared → Prop} {name qual : PySem.Str} {params params' : Arguments} {body body' : List Stmt} {scope scope' : Scope} {dV kV doc pm cdv ct oc : Value} {an od : Option Addr} {osl : Array (Option Value)} {f : Addr} {args : Args} {binds : List (PySem.Str × Value)}
    (B : Below A₀ base outer h₀) (F : Fr h₀ L s.heap m) (X₀ : K.In h₀) (N : News h₀ L s.heap news) (T : Top p loose mean mg mb h₀) (hA : A.frames = some (env :: outer)) (hf : env.frame = some L) (hke : env.scope.kind = .function)
    (ho : K.lookup f = some ⟨oc, od, .func (fnOf name qual params' body' scope' dV kV doc pm an cdv ct), osl⟩) (hp : params' = params) (hb : body' = body) (hs : scope' = scope) (hcd : codeIn K cdv qual = true) (hroom : A.depth < recursionLimit)
    (hbind : BindsTo s (fnOf name qual params body scope dV kV doc pm an cdv ct) args binds) (hkind : (binds.all fun y => scope.names.lookup y.1 == some .local || scope.names.lookup y.1 == some .cell) = true)
    (hnd : ((cellsFrom 0 scope.names []).map (·.1)).Nodup)
    (h : ∀ g L' h₁ tk cells, Fr h₀ L g m → Fr g L' h₁ (bindL (envOfC qual scope L' f cdv).kindOf binds fun _ => none) → News g L' h₁ (cells ++ news) →
      CellsAre (bindC (envOfC qual scope L' f cdv).kindOf binds fun _ => none) (cellsFrom (L' + 1) scope.names []) cells → Below A base (env :: outer) g → K.In g → Top p loose mean mg mb g → (∀ p ∈ news, p.1 < L') →
      wpAny (model prog w) (A.deeper (envOfC qual scope L' f cdv)) (execs body (envOfC qual scope L' f cdv))
        (fun fl s' => LeaveK h₀ L m g R (match fl with | .ret v => v | _ => .none) s')
        (fun e s' => wpAny (model prog w) (A.deeper (envOfC qual scope L' f cdv)) («leaving» (envOfC qual scope L' f cdv) e) (fun _ s'' => R (.error e) s'') (fun e' s'' => R (.error e') s'') s')
        { s with heap := h₁, toks := tk })
    (hco : scope.isCoroutine = false) (hgen : scope.isGenerator = false) (hk : scope.kind = .function) : codeAny (model prog w) A (.call (.ref f) args) R s := by
  subst hp hb hs
  exact code_defC B F X₀ N T hA hf hke ho hcd hroom hbind hkind hnd h hco hgen hk
theorem allLt_mono {D D' : Nat} : ∀ {l : List (Addr × Obj)}, AllLt D l → D < D' → AllLt D' l
  | [], _, _ => trivial
  | _ :: _, h, q => ⟨Nat.lt_trans h.1 q, allLt_mono h.2 q⟩
theorem allNe_of {c : Addr} : ∀ {l : List (Addr × Obj)}, AllLt c l → ∀ p ∈ l, p.1 ≠ c
  | [], _, _, hp => nomatch hp
  | q :: l, h, p, hp => by
    rcases List.mem_cons.mp hp with rfl | hp
    · exact Nat.ne_of_lt h.1
    · exact allNe_of h.2 p hp
theorem allLt_mem {c : Addr} : ∀ {l : List (Addr × Obj)}, AllLt c l → ∀ p ∈ l, @LT.lt Nat _ p.1 c
  | [], _, _, hp => nomatch hp
  | q :: l, h, p, hp => by
    rcases List.mem_cons.mp hp with rfl | hp
    · exact h.1
    · exact allLt_mem h.2 p hp
theorem news_drop {h₀ h : Heap} {L : Addr} (a b : List (Addr × Obj)) {r : List (Addr × Obj)} (N : News h₀ L h (a ++ (b ++ r))) : News h₀ L h (a ++ r) := fun p hp => N p ((List.mem_append.mp hp).elim (fun q => List.mem_append_left _ q) fun q => List.mem_append_right _ (List.mem_append_right _ q))
theorem cells_off {L' : Nat} {l : List (Addr × Obj)} (h : ∀ p ∈ l, @LT.lt Nat _ p.1 L') : AllLt L' l ∧ AllLt (L' + 1) l ∧ AllLt (L' + 1 + 1) l ∧ AllLt (L' + 1 + 1 + 1) l ∧ AllLt (L' + 1 + 1 + 1 + 1) l ∧ AllLt (L' + 1 + 1 + 1 + 1 + 1) l ∧ AllLt (L' + 1 + 1 + 1 + 1 + 1 + 1) l ∧ AllLt (L' + 1 + 1 + 1 + 1 + 1 + 1 + 1) l ∧ AllLt (L' + 1 + 1 + 1 + 1 + 1 + 1 + 1 + 1) l ∧ AllLt (L' + 1 + 1 + 1 + 1 + 1 + 1 + 1 + 1 + 1) l ∧ AllLt (L' + 1 + 1 + 1 + 1 + 1 + 1 + 1 + 1 + 1 + 1) l := by
  have h0 : AllLt L' l := allLt_of h
  refine ⟨h0, ?_, ?_, ?_, ?_, ?_, ?_, ?_, ?_, ?_, ?_⟩ <;> exact allLt_mono h0 (by omega)
end
local macro_rules | `(tactic| walk_at "mine.0") => `(tactic| (k_here; (try dsimp only); (with_reducible refine gen_toks_0 (by omega) ?_); intro tk htk))
local macro_rules | `(tactic| walk_at "execs cons") => `(tactic| walk_at "mine.0")
local macro_rules | `(tactic| walk_at "execs nil") => `(tactic| walk_at "mine.0")
section
set_option linter.unusedVariables false
set_option maxRecDepth 100000
set_option maxHeartbeats 4000000
theorem rep_any {prog : Program} {w : World} {A : Around} {E : Value → Shared → Prop} {s : Shared} {x y c r : PySem.Str} {t u : Tok} {Q : Value → Shared → Prop} (hu : 0 < u) (hx : x.length ≤ 100) (hy : Txt.replace x c r = y) (hc : (c == r) = false) (hr : r.length ≤ 14)
    (hq : ∀ t' k, Q (.str y t') { s with toks := k }) : wpAny (model prog w) A (call (.builtin "str.replace") [.str x t, .str c u, .str r (u + 1)]) Q E s := by
  subst hy
  exact SC.replaceW (Nat.ne_of_gt hu) (Nat.succ_ne_zero u) (Nat.ne_of_lt (Nat.lt_succ_self u)) hc (by omega) hr hq
theorem esc_cdata_amp {w : World} {p : Program} {loose : List PySem.Str} {mean : ExcName → Option Value} {mg mb : PySem.Str → Option Value} (dp un : Nat) (gd : Option (List Code)) (cn : PySem.Str) (cs : Scope) (a : Addr) (ccd : Value) (cl : List (PySem.Str × Addr)) (outer : List Env) (A₀ : Around) (base h₀ : Heap) (L : Addr) (m : PySem.Str → Option Value) (news : List (Addr × Obj)) (s : Shared) (x y : PySem.Str) (tx : Tok)
    (Q E : Value → Shared → Prop) (B : Below A₀ base outer h₀) (F : Fr h₀ L s.heap m) (X : (K w.params).In h₀) (N : News h₀ L s.heap news) (T : Top p loose mean mg mb h₀) (hk : cs.kind = .function) (hd : dp + 8 < recursionLimit) (hu : un + 64 < cLine) (hx : x.length ≤ 100) (hy : Txt.replace x (PySem.Str.ofString "&") (PySem.Str.ofString "&amp;") = y)  (h38 : (Builtin.Str.occurrences x (PySem.Str.ofString "&") 0 x.length 1).isEmpty = false) (m60 : (Builtin.Str.occurrences y (PySem.Str.ofString "<") 0 y.length 1).isEmpty = true) (m62 : (Builtin.Str.occurrences y (PySem.Str.ofString ">") 0 y.length 1).isEmpty = true)
    (hret : ∀ t h' tk', Fr h₀ L h' m → News h₀ L h' news → Q (.str y t) { s with heap := h', toks := tk' }) :
    wpAny (model pw w) (ktrTop dp un gd cn cs L a ccd cl outer) (call (.ref 193) [.str x tx]) Q E s := by
  
  refine wpAny_call ?_
  k_dflt (refine' code_defL ?k1 ?k2 ?k3 ?k4 ?k5 ?kA ?kF ?kK ?k6 ?kp ?kb ?ks ?k7 ?k8 ?k9 ?kB ?_ ?c2 ?c3 ?c4 ?c5; (case kA => exact rfl); (case kF => exact rfl); (case kK => assumption); (case k1 => k_asm); (case k2 => k_asm); (case k3 => k_asm); (case k4 => k_asm); (case k5 => k_asm); (case k6 => k_is); (case kp => conv => lhs; whnf); (case kb => conv => lhs; whnf); (case ks => conv => lhs; whnf); (case k7 => k_is); (case k8 => ktr_room); (case k9 => exact BindsTo.of_eq rfl); (case c5 => decide); (case kB => exact locs rfl); (case c2 => exact rfl); (case c3 => exact rfl); (case c4 => exact rfl); k_whole; intro gq9 Lq9 hq9 FGq9 Fq9 Nq9 Bq9 Xq9 Tq9; (try dsimp only); (try k_fold))
  (repeat' (first | (k_unfold; (try dsimp only)) | (k_end; wrow_close) | ((with_reducible show wpAny _ _ (call _ _) _ _ _); refine rep_any (by assumption) (by assumption) (by assumption) (by decide) (by decide) ?_; intro _ _) | walk1 | (dsimp only; walk1) | (leave1; (try dsimp only)) | fail))
  all_goals exact hret _ _ _ (by k_asm) (by k_asm)
theorem esc_attrib_amp {w : World} {p : Program} {loose : List PySem.Str} {mean : ExcName → Option Value} {mg mb : PySem.Str → Option Value} (dp un : Nat) (gd : Option (List Code)) (cn : PySem.Str) (cs : Scope) (a : Addr) (ccd : Value) (cl : List (PySem.Str × Addr)) (outer : List Env) (A₀ : Around) (base h₀ : Heap) (L : Addr) (m : PySem.Str → Option Value) (news : List (Addr × Obj)) (s : Shared) (x y : PySem.Str) (tx : Tok)
    (Q E : Value → Shared → Prop) (B : Below A₀ base outer h₀) (F : Fr h₀ L s.heap m) (X : (K w.params).In h₀) (N : News h₀ L s.heap news) (T : Top p loose mean mg mb h₀) (hk : cs.kind = .function) (hd : dp + 8 < recursionLimit) (hu : un + 64 < cLine) (hx : x.length ≤ 100) (hy : Txt.replace x (PySem.Str.ofString "&") (PySem.Str.ofString "&amp;") = y)  (h38 : (Builtin.Str.occurrences x (PySem.Str.ofString "&") 0 x.length 1).isEmpty = false) (m60 : (Builtin.Str.occurrences y (PySem.Str.ofString "<") 0 y.length 1).isEmpty = true) (m62 : (Builtin.Str.occurrences y (PySem.Str.ofString ">") 0 y.length 1).isEmpty = true) (m34 : (Builtin.Str.occurrences y (PySem.Str.ofString "\"") 0 y.length 1).isEmpty = true) (m13 : (Builtin.Str.occurrences y (PySem.Str.ofString "\r") 0 y.length 1).isEmpty = true) (m10 : (Builtin.Str.occurrences y (PySem.Str.ofString "\n") 0 y.length 1).isEmpty = true) (m9 : (Builtin.Str.occurrences y (PySem.Str.ofString "\t") 0 y.length 1).isEmpty = true)
    (hret : ∀ t h' tk', Fr h₀ L h' m → News h₀ L h' news → Q (.str y t) { s with heap := h', toks := tk' }) :
    wpAny (model pw w) (ktrTop dp un gd cn cs L a ccd cl outer) (call (.ref 200) [.str x tx]) Q E s := by
  
  refine wpAny_call ?_
  k_dflt (refine' code_defL ?k1 ?k2 ?k3 ?k4 ?k5 ?kA ?kF ?kK ?k6 ?kp ?kb ?ks ?k7 ?k8 ?k9 ?kB ?_ ?c2 ?c3 ?c4 ?c5; (case kA => exact rfl); (case kF => exact rfl); (case kK => assumption); (case k1 => k_asm); (case k2 => k_asm); (case k3 => k_asm); (case k4 => k_asm); (case k5 => k_asm); (case k6 => k_is); (case kp => conv => lhs; whnf); (case kb => conv => lhs; whnf); (case ks => conv => lhs; whnf); (case k7 => k_is); (case k8 => ktr_room); (case k9 => exact BindsTo.of_eq rfl); (case c5 => decide); (case kB => exact locs rfl); (case c2 => exact rfl); (case c3 => exact rfl); (case c4 => exact rfl); k_whole; intro gq9 Lq9 hq9 FGq9 Fq9 Nq9 Bq9 Xq9 Tq9; (try dsimp only); (try k_fold))
  (repeat' (first | (k_unfold; (try dsimp only)) | (k_end; wrow_close) | ((with_reducible show wpAny _ _ (call _ _) _ _ _); refine rep_any (by assumption) (by assumption) (by assumption) (by decide) (by decide) ?_; intro _ _) | walk1 | (dsimp only; walk1) | (leave1; (try dsimp only)) | fail))
  all_goals exact hret _ _ _ (by k_asm) (by k_asm)
theorem esc_attrib_cr {w : World} {p : Program} {loose : List PySem.Str} {mean : ExcName → Option Value} {mg mb : PySem.Str → Option Value} (dp un : Nat) (gd : Option (List Code)) (cn : PySem.Str) (cs : Scope) (a : Addr) (ccd : Value) (cl : List (PySem.Str × Addr)) (outer : List Env) (A₀ : Around) (base h₀ : Heap) (L : Addr) (m : PySem.Str → Option Value) (news : List (Addr × Obj)) (s : Shared) (x y : PySem.Str) (tx : Tok)
    (Q E : Value → Shared → Prop) (B : Below A₀ base outer h₀) (F : Fr h₀ L s.heap m) (X : (K w.params).In h₀) (N : News h₀ L s.heap news) (T : Top p loose mean mg mb h₀) (hk : cs.kind = .function) (hd : dp + 8 < recursionLimit) (hu : un + 64 < cLine) (hx : x.length ≤ 100) (hy : Txt.replace x (PySem.Str.ofString "\r") (PySem.Str.ofString "&#13;") = y) (n38 : (Builtin.Str.occurrences x (PySem.Str.ofString "&") 0 x.length 1).isEmpty = true) (n60 : (Builtin.Str.occurrences x (PySem.Str.ofString "<") 0 x.length 1).isEmpty = true) (n62 : (Builtin.Str.occurrences x (PySem.Str.ofString ">") 0 x.length 1).isEmpty = true) (n34 : (Builtin.Str.occurrences x (PySem.Str.ofString "\"") 0 x.length 1).isEmpty = true) (h13 : (Builtin.Str.occurrences x (PySem.Str.ofString "\r") 0 x.length 1).isEmpty = false) (m10 : (Builtin.Str.occurrences y (PySem.Str.ofString "\n") 0 y.length 1).isEmpty = true) (m9 : (Builtin.Str.occurrences y (PySem.Str.ofString "\t") 0 y.length 1).isEmpty = true)
    (hret : ∀ t h' tk', Fr h₀ L h' m → News h₀ L h' news → Q (.str y t) { s with heap := h', toks := tk' }) :
    wpAny (model pw w) (ktrTop dp un gd cn cs L a ccd cl outer) (call (.ref 200) [.str x tx]) Q E s := by
  
  refine wpAny_call ?_
  k_dflt (refine' code_defL ?k1 ?k2 ?k3 ?k4 ?k5 ?kA ?kF ?kK ?k6 ?kp ?kb ?ks ?k7 ?k8 ?k9 ?kB ?_ ?c2 ?c3 ?c4 ?c5; (case kA => exact rfl); (case kF => exact rfl); (case kK => assumption); (case k1 => k_asm); (case k2 => k_asm); (case k3 => k_asm); (case k4 => k_asm); (case k5 => k_asm); (case k6 => k_is); (case kp => conv => lhs; whnf); (case kb => conv => lhs; whnf); (case ks => conv => lhs; whnf); (case k7 => k_is); (case k8 => ktr_room); (case k9 => exact BindsTo.of_eq rfl); (case c5 => decide); (case kB => exact locs rfl); (case c2 => exact rfl); (case c3 => exact rfl); (case c4 => exact rfl); k_whole; intro gq9 Lq9 hq9 FGq9 Fq9 Nq9 Bq9 Xq9 Tq9; (try dsimp only); (try k_fold))
  (repeat' (first | (k_unfold; (try dsimp only)) | (k_end; wrow_close) | ((with_reducible show wpAny _ _ (call _ _) _ _ _); refine rep_any (by assumption) (by assumption) (by assumption) (by decide) (by decide) ?_; intro _ _) | walk1 | (dsimp only; walk1) | (leave1; (try dsimp only)) | fail))
  all_goals exact hret _ _ _ (by k_asm) (by k_asm)
theorem esc_attrib_lf {w : World} {p : Program} {loose : List PySem.Str} {mean : ExcName → Option Value} {mg mb : PySem.Str → Option Value} (dp un : Nat) (gd : Option (List Code)) (cn : PySem.Str) (cs : Scope) (a : Addr) (ccd : Value) (cl : List (PySem.Str × Addr)) (outer : List Env) (A₀ : Around) (base h₀ : Heap) (L : Addr) (m : PySem.Str → Option Value) (news : List (Addr × Obj)) (s : Shared) (x y : PySem.Str) (tx : Tok)
    (Q E : Value → Shared → Prop) (B : Below A₀ base outer h₀) (F : Fr h₀ L s.heap m) (X : (K w.params).In h₀) (N : News h₀ L s.heap news) (T : Top p loose mean mg mb h₀) (hk : cs.kind = .function) (hd : dp + 8 < recursionLimit) (hu : un + 64 < cLine) (hx : x.length ≤ 100) (hy : Txt.replace x (PySem.Str.ofString "\n") (PySem.Str.ofString "&#10;") = y) (n38 : (Builtin.Str.occurrences x (PySem.Str.ofString "&") 0 x.length 1).isEmpty = true) (n60 : (Builtin.Str.occurrences x (PySem.Str.ofString "<") 0 x.length 1).isEmpty = true) (n62 : (Builtin.Str.occurrences x (PySem.Str.ofString ">") 0 x.length 1).isEmpty = true) (n34 : (Builtin.Str.occurrences x (PySem.Str.ofString "\"") 0 x.length 1).isEmpty = true) (n13 : (Builtin.Str.occurrences x (PySem.Str.ofString "\r") 0 x.length 1).isEmpty = true) (h10 : (Builtin.Str.occurrences x (PySem.Str.ofString "\n") 0 x.length 1).isEmpty = false) (m9 : (Builtin.Str.occurrences y (PySem.Str.ofString "\t") 0 y.length 1).isEmpty = true)
    (hret : ∀ t h' tk', Fr h₀ L h' m → News h₀ L h' news → Q (.str y t) { s with heap := h', toks := tk' }) :
    wpAny (model pw w) (ktrTop dp un gd cn cs L a ccd cl outer) (call (.ref 200) [.str x tx]) Q E s := by
  
  refine wpAny_call ?_
  k_dflt (refine' code_defL ?k1 ?k2 ?k3 ?k4 ?k5 ?kA ?kF ?kK ?k6 ?kp ?kb ?ks ?k7 ?k8 ?k9 ?kB ?_ ?c2 ?c3 ?c4 ?c5; (case kA => exact rfl); (case kF => exact rfl); (case kK => assumption); (case k1 => k_asm); (case k2 => k_asm); (case k3 => k_asm); (case k4 => k_asm); (case k5 => k_asm); (case k6 => k_is); (case kp => conv => lhs; whnf); (case kb => conv => lhs; whnf); (case ks => conv => lhs; whnf); (case k7 => k_is); (case k8 => ktr_room); (case k9 => exact BindsTo.of_eq rfl); (case c5 => decide); (case kB => exact locs rfl); (case c2 => exact rfl); (case c3 => exact rfl); (case c4 => exact rfl); k_whole; intro gq9 Lq9 hq9 FGq9 Fq9 Nq9 Bq9 Xq9 Tq9; (try dsimp only); (try k_fold))
  (repeat' (first | (k_unfold; (try dsimp only)) | (k_end; wrow_close) | ((with_reducible show wpAny _ _ (call _ _) _ _ _); refine rep_any (by assumption) (by assumption) (by assumption) (by decide) (by decide) ?_; intro _ _) | walk1 | (dsimp only; walk1) | (leave1; (try dsimp only)) | fail))
  all_goals exact hret _ _ _ (by k_asm) (by k_asm)
theorem esc_attrib_tab {w : World} {p : Program} {loose : List PySem.Str} {mean : ExcName → Option Value} {mg mb : PySem.Str → Option Value} (dp un : Nat) (gd : Option (List Code)) (cn : PySem.Str) (cs : Scope) (a : Addr) (ccd : Value) (cl : List (PySem.Str × Addr)) (outer : List Env) (A₀ : Around) (base h₀ : Heap) (L : Addr) (m : PySem.Str → Option Value) (news : List (Addr × Obj)) (s : Shared) (x y : PySem.Str) (tx : Tok)
    (Q E : Value → Shared → Prop) (B : Below A₀ base outer h₀) (F : Fr h₀ L s.heap m) (X : (K w.params).In h₀) (N : News h₀ L s.heap news) (T : Top p loose mean mg mb h₀) (hk : cs.kind = .function) (hd : dp + 8 < recursionLimit) (hu : un + 64 < cLine) (hx : x.length ≤ 100) (hy : Txt.replace x (PySem.Str.ofString "\t") (PySem.Str.ofString "&#09;") = y) (n38 : (Builtin.Str.occurrences x (PySem.Str.ofString "&") 0 x.length 1).isEmpty = true) (n60 : (Builtin.Str.occurrences x (PySem.Str.ofString "<") 0 x.length 1).isEmpty = true) (n62 : (Builtin.Str.occurrences x (PySem.Str.ofString ">") 0 x.length 1).isEmpty = true) (n34 : (Builtin.Str.occurrences x (PySem.Str.ofString "\"") 0 x.length 1).isEmpty = true) (n13 : (Builtin.Str.occurrences x (PySem.Str.ofString "\r") 0 x.length 1).isEmpty = true) (n10 : (Builtin.Str.occurrences x (PySem.Str.ofString "\n") 0 x.length 1).isEmpty = true) (h9 : (Builtin.Str.occurrences x (PySem.Str.ofString "\t") 0 x.length 1).isEmpty = false) 
    (hret : ∀ t h' tk', Fr h₀ L h' m → News h₀ L h' news → Q (.str y t) { s with heap := h', toks := tk' }) :
    wpAny (model pw w) (ktrTop dp un gd cn cs L a ccd cl outer) (call (.ref 200) [.str x tx]) Q E s := by
  
  refine wpAny_call ?_
  k_dflt (refine' code_defL ?k1 ?k2 ?k3 ?k4 ?k5 ?kA ?kF ?kK ?k6 ?kp ?kb ?ks ?k7 ?k8 ?k9 ?kB ?_ ?c2 ?c3 ?c4 ?c5; (case kA => exact rfl); (case kF => exact rfl); (case kK => assumption); (case k1 => k_asm); (case k2 => k_asm); (case k3 => k_asm); (case k4 => k_asm); (case k5 => k_asm); (case k6 => k_is); (case kp => conv => lhs; whnf); (case kb => conv => lhs; whnf); (case ks => conv => lhs; whnf); (case k7 => k_is); (case k8 => ktr_room); (case k9 => exact BindsTo.of_eq rfl); (case c5 => decide); (case kB => exact locs rfl); (case c2 => exact rfl); (case c3 => exact rfl); (case c4 => exact rfl); k_whole; intro gq9 Lq9 hq9 FGq9 Fq9 Nq9 Bq9 Xq9 Tq9; (try dsimp only); (try k_fold))
  (repeat' (first | (k_unfold; (try dsimp only)) | (k_end; wrow_close) | ((with_reducible show wpAny _ _ (call _ _) _ _ _); refine rep_any (by assumption) (by assumption) (by assumption) (by decide) (by decide) ?_; intro _ _) | walk1 | (dsimp only; walk1) | (leave1; (try dsimp only)) | fail))
  all_goals exact hret _ _ _ (by k_asm) (by k_asm)
theorem esc_html_amp {w : World} {p : Program} {loose : List PySem.Str} {mean : ExcName → Option Value} {mg mb : PySem.Str → Option Value} (dp un : Nat) (gd : Option (List Code)) (cn : PySem.Str) (cs : Scope) (a : Addr) (ccd : Value) (cl : List (PySem.Str × Addr)) (outer : List Env) (A₀ : Around) (base h₀ : Heap) (L : Addr) (m : PySem.Str → Option Value) (news : List (Addr × Obj)) (s : Shared) (x y : PySem.Str) (tx : Tok)
    (Q E : Value → Shared → Prop) (B : Below A₀ base outer h₀) (F : Fr h₀ L s.heap m) (X : (K w.params).In h₀) (N : News h₀ L s.heap news) (T : Top p loose mean mg mb h₀) (hk : cs.kind = .function) (hd : dp + 8 < recursionLimit) (hu : un + 64 < cLine) (hx : x.length ≤ 100) (hy : Txt.replace x (PySem.Str.ofString "&") (PySem.Str.ofString "&amp;") = y)  (h38 : (Builtin.Str.occurrences x (PySem.Str.ofString "&") 0 x.length 1).isEmpty = false) (m62 : (Builtin.Str.occurrences y (PySem.Str.ofString ">") 0 y.length 1).isEmpty = true) (m34 : (Builtin.Str.occurrences y (PySem.Str.ofString "\"") 0 y.length 1).isEmpty = true)
    (hret : ∀ t h' tk', Fr h₀ L h' m → News h₀ L h' news → Q (.str y t) { s with heap := h', toks := tk' }) :
    wpAny (model pw w) (ktrTop dp un gd cn cs L a ccd cl outer) (call (.ref 207) [.str x tx]) Q E s := by
  
  refine wpAny_call ?_
  k_dflt (refine' code_defL ?k1 ?k2 ?k3 ?k4 ?k5 ?kA ?kF ?kK ?k6 ?kp ?kb ?ks ?k7 ?k8 ?k9 ?kB ?_ ?c2 ?c3 ?c4 ?c5; (case kA => exact rfl); (case kF => exact rfl); (case kK => assumption); (case k1 => k_asm); (case k2 => k_asm); (case k3 => k_asm); (case k4 => k_asm); (case k5 => k_asm); (case k6 => k_is); (case kp => conv => lhs; whnf); (case kb => conv => lhs; whnf); (case ks => conv => lhs; whnf); (case k7 => k_is); (case k8 => ktr_room); (case k9 => exact BindsTo.of_eq rfl); (case c5 => decide); (case kB => exact locs rfl); (case c2 => exact rfl); (case c3 => exact rfl); (case c4 => exact rfl); k_whole; intro gq9 Lq9 hq9 FGq9 Fq9 Nq9 Bq9 Xq9 Tq9; (try dsimp only); (try k_fold))
  (repeat' (first | (k_unfold; (try dsimp only)) | (k_end; wrow_close) | ((with_reducible show wpAny _ _ (call _ _) _ _ _); refine rep_any (by assumption) (by assumption) (by assumption) (by decide) (by decide) ?_; intro _ _) | walk1 | (dsimp only; walk1) | (leave1; (try dsimp only)) | fail))
  all_goals exact hret _ _ _ (by k_asm) (by k_asm)
theorem esc_cdata14_amp {w : World} {p : Program} {loose : List PySem.Str} {mean : ExcName → Option Value} {mg mb : PySem.Str → Option Value} (dp un : Nat) (gd : Option (List Code)) (cn : PySem.Str) (cs : Scope) (a : Addr) (ccd : Value) (cl : List (PySem.Str × Addr)) (outer : List Env) (A₀ : Around) (base h₀ : Heap) (L : Addr) (m : PySem.Str → Option Value) (news : List (Addr × Obj)) (s : Shared) (x y : PySem.Str) (tx : Tok)
    (Q E : Value → Shared → Prop) (B : Below A₀ base outer h₀) (F : Fr h₀ L s.heap m) (X : (K w.params).In h₀) (N : News h₀ L s.heap news) (T : Top p loose mean mg mb h₀) (hk : cs.kind = .function) (hd : dp + 8 < recursionLimit) (hu : un + 64 < cLine) (hx : x.length ≤ 100) (hy : Txt.replace x (PySem.Str.ofString "&") (PySem.Str.ofString "&amp;") = y)  (h38 : (Builtin.Str.occurrences x (PySem.Str.ofString "&") 0 x.length 1).isEmpty = false) (m60 : (Builtin.Str.occurrences y (PySem.Str.ofString "<") 0 y.length 1).isEmpty = true) (m62 : (Builtin.Str.occurrences y (PySem.Str.ofString ">") 0 y.length 1).isEmpty = true) (m13 : (Builtin.Str.occurrences y (PySem.Str.ofString "\r") 0 y.length 1).isEmpty = true)
    (hret : ∀ t h' tk', Fr h₀ L h' m → News h₀ L h' news → Q (.str y t) { s with heap := h', toks := tk' }) :
    wpAny (model pw w) (ktrTop dp un gd cn cs L a ccd cl outer) (call (.ref 214) [.str x tx]) Q E s := by
  
  refine wpAny_call ?_
  k_dflt (refine' code_defL ?k1 ?k2 ?k3 ?k4 ?k5 ?kA ?kF ?kK ?k6 ?kp ?kb ?ks ?k7 ?k8 ?k9 ?kB ?_ ?c2 ?c3 ?c4 ?c5; (case kA => exact rfl); (case kF => exact rfl); (case kK => assumption); (case k1 => k_asm); (case k2 => k_asm); (case k3 => k_asm); (case k4 => k_asm); (case k5 => k_asm); (case k6 => k_is); (case kp => conv => lhs; whnf); (case kb => conv => lhs; whnf); (case ks => conv => lhs; whnf); (case k7 => k_is); (case k8 => ktr_room); (case k9 => exact BindsTo.of_eq rfl); (case c5 => decide); (case kB => exact locs rfl); (case c2 => exact rfl); (case c3 => exact rfl); (case c4 => exact rfl); k_whole; intro gq9 Lq9 hq9 FGq9 Fq9 Nq9 Bq9 Xq9 Tq9; (try dsimp only); (try k_fold))
  (repeat' (first | (k_unfold; (try dsimp only)) | (k_end; wrow_close) | ((with_reducible show wpAny _ _ (call _ _) _ _ _); refine rep_any (by assumption) (by assumption) (by assumption) (by decide) (by decide) ?_; intro _ _) | walk1 | (dsimp only; walk1) | (leave1; (try dsimp only)) | fail))
  all_goals exact hret _ _ _ (by k_asm) (by k_asm)
theorem esc_cdata14_cr {w : World} {p : Program} {loose : List PySem.Str} {mean : ExcName → Option Value} {mg mb : PySem.Str → Option Value} (dp un : Nat) (gd : Option (List Code)) (cn : PySem.Str) (cs : Scope) (a : Addr) (ccd : Value) (cl : List (PySem.Str × Addr)) (outer : List Env) (A₀ : Around) (base h₀ : Heap) (L : Addr) (m : PySem.Str → Option Value) (news : List (Addr × Obj)) (s : Shared) (x y : PySem.Str) (tx : Tok)
    (Q E : Value → Shared → Prop) (B : Below A₀ base outer h₀) (F : Fr h₀ L s.heap m) (X : (K w.params).In h₀) (N : News h₀ L s.heap news) (T : Top p loose mean mg mb h₀) (hk : cs.kind = .function) (hd : dp + 8 < recursionLimit) (hu : un + 64 < cLine) (hx : x.length ≤ 100) (hy : Txt.replace x (PySem.Str.ofString "\r") (PySem.Str.ofString "&#xD;") = y) (n38 : (Builtin.Str.occurrences x (PySem.Str.ofString "&") 0 x.length 1).isEmpty = true) (n60 : (Builtin.Str.occurrences x (PySem.Str.ofString "<") 0 x.length 1).isEmpty = true) (n62 : (Builtin.Str.occurrences x (PySem.Str.ofString ">") 0 x.length 1).isEmpty = true) (h13 : (Builtin.Str.occurrences x (PySem.Str.ofString "\r") 0 x.length 1).isEmpty = false) 
    (hret : ∀ t h' tk', Fr h₀ L h' m → News h₀ L h' news → Q (.str y t) { s with heap := h', toks := tk' }) :
    wpAny (model pw w) (ktrTop dp un gd cn cs L a ccd cl outer) (call (.ref 214) [.str x tx]) Q E s := by
  
  refine wpAny_call ?_
  k_dflt (refine' code_defL ?k1 ?k2 ?k3 ?k4 ?k5 ?kA ?kF ?kK ?k6 ?kp ?kb ?ks ?k7 ?k8 ?k9 ?kB ?_ ?c2 ?c3 ?c4 ?c5; (case kA => exact rfl); (case kF => exact rfl); (case kK => assumption); (case k1 => k_asm); (case k2 => k_asm); (case k3 => k_asm); (case k4 => k_asm); (case k5 => k_asm); (case k6 => k_is); (case kp => conv => lhs; whnf); (case kb => conv => lhs; whnf); (case ks => conv => lhs; whnf); (case k7 => k_is); (case k8 => ktr_room); (case k9 => exact BindsTo.of_eq rfl); (case c5 => decide); (case kB => exact locs rfl); (case c2 => exact rfl); (case c3 => exact rfl); (case c4 => exact rfl); k_whole; intro gq9 Lq9 hq9 FGq9 Fq9 Nq9 Bq9 Xq9 Tq9; (try dsimp only); (try k_fold))
  (repeat' (first | (k_unfold; (try dsimp only)) | (k_end; wrow_close) | ((with_reducible show wpAny _ _ (call _ _) _ _ _); refine rep_any (by assumption) (by assumption) (by assumption) (by decide) (by decide) ?_; intro _ _) | walk1 | (dsimp only; walk1) | (leave1; (try dsimp only)) | fail))
  all_goals exact hret _ _ _ (by k_asm) (by k_asm)
theorem esc_attrib14_amp {w : World} {p : Program} {loose : List PySem.Str} {mean : ExcName → Option Value} {mg mb : PySem.Str → Option Value} (dp un : Nat) (gd : Option (List Code)) (cn : PySem.Str) (cs : Scope) (a : Addr) (ccd : Value) (cl : List (PySem.Str × Addr)) (outer : List Env) (A₀ : Around) (base h₀ : Heap) (L : Addr) (m : PySem.Str → Option Value) (news : List (Addr × Obj)) (s : Shared) (x y : PySem.Str) (tx : Tok)
    (Q E : Value → Shared → Prop) (B : Below A₀ base outer h₀) (F : Fr h₀ L s.heap m) (X : (K w.params).In h₀) (N : News h₀ L s.heap news) (T : Top p loose mean mg mb h₀) (hk : cs.kind = .function) (hd : dp + 8 < recursionLimit) (hu : un + 64 < cLine) (hx : x.length ≤ 100) (hy : Txt.replace x (PySem.Str.ofString "&") (PySem.Str.ofString "&amp;") = y)  (h38 : (Builtin.Str.occurrences x (PySem.Str.ofString "&") 0 x.length 1).isEmpty = false) (m60 : (Builtin.Str.occurrences y (PySem.Str.ofString "<") 0 y.length 1).isEmpty = true) (m34 : (Builtin.Str.occurrences y (PySem.Str.ofString "\"") 0 y.length 1).isEmpty = true) (m9 : (Builtin.Str.occurrences y (PySem.Str.ofString "\t") 0 y.length 1).isEmpty = true) (m10 : (Builtin.Str.occurrences y (PySem.Str.ofString "\n") 0 y.length 1).isEmpty = true) (m13 : (Builtin.Str.occurrences y (PySem.Str.ofString "\r") 0 y.length 1).isEmpty = true)
    (hret : ∀ t h' tk', Fr h₀ L h' m → News h₀ L h' news → Q (.str y t) { s with heap := h', toks := tk' }) :
    wpAny (model pw w) (ktrTop dp un gd cn cs L a ccd cl outer) (call (.ref 221) [.str x tx]) Q E s := by
  
  refine wpAny_call ?_
  k_dflt (refine' code_defL ?k1 ?k2 ?k3 ?k4 ?k5 ?kA ?kF ?kK ?k6 ?kp ?kb ?ks ?k7 ?k8 ?k9 ?kB ?_ ?c2 ?c3 ?c4 ?c5; (case kA => exact rfl); (case kF => exact rfl); (case kK => assumption); (case k1 => k_asm); (case k2 => k_asm); (case k3 => k_asm); (case k4 => k_asm); (case k5 => k_asm); (case k6 => k_is); (case kp => conv => lhs; whnf); (case kb => conv => lhs; whnf); (case ks => conv => lhs; whnf); (case k7 => k_is); (case k8 => ktr_room); (case k9 => exact BindsTo.of_eq rfl); (case c5 => decide); (case kB => exact locs rfl); (case c2 => exact rfl); (case c3 => exact rfl); (case c4 => exact rfl); k_whole; intro gq9 Lq9 hq9 FGq9 Fq9 Nq9 Bq9 Xq9 Tq9; (try dsimp only); (try k_fold))
  (repeat' (first | (k_unfold; (try dsimp only)) | (k_end; wrow_close) | ((with_reducible show wpAny _ _ (call _ _) _ _ _); refine rep_any (by assumption) (by assumption) (by assumption) (by decide) (by decide) ?_; intro _ _) | walk1 | (dsimp only; walk1) | (leave1; (try dsimp only)) | fail))
  all_goals exact hret _ _ _ (by k_asm) (by k_asm)
theorem esc_attrib14_tab {w : World} {p : Program} {loose : List PySem.Str} {mean : ExcName → Option Value} {mg mb : PySem.Str → Option Value} (dp un : Nat) (gd : Option (List Code)) (cn : PySem.Str) (cs : Scope) (a : Addr) (ccd : Value) (cl : List (PySem.Str × Addr)) (outer : List Env) (A₀ : Around) (base h₀ : Heap) (L : Addr) (m : PySem.Str → Option Value) (news : List (Addr × Obj)) (s : Shared) (x y : PySem.Str) (tx : Tok)
    (Q E : Value → Shared → Prop) (B : Below A₀ base outer h₀) (F : Fr h₀ L s.heap m) (X : (K w.params).In h₀) (N : News h₀ L s.heap news) (T : Top p loose mean mg mb h₀) (hk : cs.kind = .function) (hd : dp + 8 < recursionLimit) (hu : un + 64 < cLine) (hx : x.length ≤ 100) (hy : Txt.replace x (PySem.Str.ofString "\t") (PySem.Str.ofString "&#x9;") = y) (n38 : (Builtin.Str.occurrences x (PySem.Str.ofString "&") 0 x.length 1).isEmpty = true) (n60 : (Builtin.Str.occurrences x (PySem.Str.ofString "<") 0 x.length 1).isEmpty = true) (n34 : (Builtin.Str.occurrences x (PySem.Str.ofString "\"") 0 x.length 1).isEmpty = true) (h9 : (Builtin.Str.occurrences x (PySem.Str.ofString "\t") 0 x.length 1).isEmpty = false) (m10 : (Builtin.Str.occurrences y (PySem.Str.ofString "\n") 0 y.length 1).isEmpty = true) (m13 : (Builtin.Str.occurrences y (PySem.Str.ofString "\r") 0 y.length 1).isEmpty = true)
    (hret : ∀ t h' tk', Fr h₀ L h' m → News h₀ L h' news → Q (.str y t) { s with heap := h', toks := tk' }) :
    wpAny (model pw w) (ktrTop dp un gd cn cs L a ccd cl outer) (call (.ref 221) [.str x tx]) Q E s := by
  
  refine wpAny_call ?_
  k_dflt (refine' code_defL ?k1 ?k2 ?k3 ?k4 ?k5 ?kA ?kF ?kK ?k6 ?kp ?kb ?ks ?k7 ?k8 ?k9 ?kB ?_ ?c2 ?c3 ?c4 ?c5; (case kA => exact rfl); (case kF => exact rfl); (case kK => assumption); (case k1 => k_asm); (case k2 => k_asm); (case k3 => k_asm); (case k4 => k_asm); (case k5 => k_asm); (case k6 => k_is); (case kp => conv => lhs; whnf); (case kb => conv => lhs; whnf); (case ks => conv => lhs; whnf); (case k7 => k_is); (case k8 => ktr_room); (case k9 => exact BindsTo.of_eq rfl); (case c5 => decide); (case kB => exact locs rfl); (case c2 => exact rfl); (case c3 => exact rfl); (case c4 => exact rfl); k_whole; intro gq9 Lq9 hq9 FGq9 Fq9 Nq9 Bq9 Xq9 Tq9; (try dsimp only); (try k_fold))
  (repeat' (first | (k_unfold; (try dsimp only)) | (k_end; wrow_close) | ((with_reducible show wpAny _ _ (call _ _) _ _ _); refine rep_any (by assumption) (by assumption) (by assumption) (by decide) (by decide) ?_; intro _ _) | walk1 | (dsimp only; walk1) | (leave1; (try dsimp only)) | fail))
  all_goals exact hret _ _ _ (by k_asm) (by k_asm)
theorem esc_attrib14_lf {w : World} {p : Program} {loose : List PySem.Str} {mean : ExcName → Option Value} {mg mb : PySem.Str → Option Value} (dp un : Nat) (gd : Option (List Code)) (cn : PySem.Str) (cs : Scope) (a : Addr) (ccd : Value) (cl : List (PySem.Str × Addr)) (outer : List Env) (A₀ : Around) (base h₀ : Heap) (L : Addr) (m : PySem.Str → Option Value) (news : List (Addr × Obj)) (s : Shared) (x y : PySem.Str) (tx : Tok)
    (Q E : Value → Shared → Prop) (B : Below A₀ base outer h₀) (F : Fr h₀ L s.heap m) (X : (K w.params).In h₀) (N : News h₀ L s.heap news) (T : Top p loose mean mg mb h₀) (hk : cs.kind = .function) (hd : dp + 8 < recursionLimit) (hu : un + 64 < cLine) (hx : x.length ≤ 100) (hy : Txt.replace x (PySem.Str.ofString "\n") (PySem.Str.ofString "&#xA;") = y) (n38 : (Builtin.Str.occurrences x (PySem.Str.ofString "&") 0 x.length 1).isEmpty = true) (n60 : (Builtin.Str.occurrences x (PySem.Str.ofString "<") 0 x.length 1).isEmpty = true) (n34 : (Builtin.Str.occurrences x (PySem.Str.ofString "\"") 0 x.length 1).isEmpty = true) (n9 : (Builtin.Str.occurrences x (PySem.Str.ofString "\t") 0 x.length 1).isEmpty = true) (h10 : (Builtin.Str.occurrences x (PySem.Str.ofString "\n") 0 x.length 1).isEmpty = false) (m13 : (Builtin.Str.occurrences y (PySem.Str.ofString "\r") 0 y.length 1).isEmpty = true)
    (hret : ∀ t h' tk', Fr h₀ L h' m → News h₀ L h' news → Q (.str y t) { s with heap := h', toks := tk' }) :
    wpAny (model pw w) (ktrTop dp un gd cn cs L a ccd cl outer) (call (.ref 221) [.str x tx]) Q E s := by
  
  refine wpAny_call ?_
  k_dflt (refine' code_defL ?k1 ?k2 ?k3 ?k4 ?k5 ?kA ?kF ?kK ?k6 ?kp ?kb ?ks ?k7 ?k8 ?k9 ?kB ?_ ?c2 ?c3 ?c4 ?c5; (case kA => exact rfl); (case kF => exact rfl); (case kK => assumption); (case k1 => k_asm); (case k2 => k_asm); (case k3 => k_asm); (case k4 => k_asm); (case k5 => k_asm); (case k6 => k_is); (case kp => conv => lhs; whnf); (case kb => conv => lhs; whnf); (case ks => conv => lhs; whnf); (case k7 => k_is); (case k8 => ktr_room); (case k9 => exact BindsTo.of_eq rfl); (case c5 => decide); (case kB => exact locs rfl); (case c2 => exact rfl); (case c3 => exact rfl); (case c4 => exact rfl); k_whole; intro gq9 Lq9 hq9 FGq9 Fq9 Nq9 Bq9 Xq9 Tq9; (try dsimp only); (try k_fold))
  (repeat' (first | (k_unfold; (try dsimp only)) | (k_end; wrow_close) | ((with_reducible show wpAny _ _ (call _ _) _ _ _); refine rep_any (by assumption) (by assumption) (by assumption) (by decide) (by decide) ?_; intro _ _) | walk1 | (dsimp only; walk1) | (leave1; (try dsimp only)) | fail))
  all_goals exact hret _ _ _ (by k_asm) (by k_asm)
theorem esc_attrib14_cr {w : World} {p : Program} {loose : List PySem.Str} {mean : ExcName → Option Value} {mg mb : PySem.Str → Option Value} (dp un : Nat) (gd : Option (List Code)) (cn : PySem.Str) (cs : Scope) (a : Addr) (ccd : Value) (cl : List (PySem.Str × Addr)) (outer : List Env) (A₀ : Around) (base h₀ : Heap) (L : Addr) (m : PySem.Str → Option Value) (news : List (Addr × Obj)) (s : Shared) (x y : PySem.Str) (tx : Tok)
    (Q E : Value → Shared → Prop) (B : Below A₀ base outer h₀) (F : Fr h₀ L s.heap m) (X : (K w.params).In h₀) (N : News h₀ L s.heap news) (T : Top p loose mean mg mb h₀) (hk : cs.kind = .function) (hd : dp + 8 < recursionLimit) (hu : un + 64 < cLine) (hx : x.length ≤ 100) (hy : Txt.replace x (PySem.Str.ofString "\r") (PySem.Str.ofString "&#xD;") = y) (n38 : (Builtin.Str.occurrences x (PySem.Str.ofString "&") 0 x.length 1).isEmpty = true) (n60 : (Builtin.Str.occurrences x (PySem.Str.ofString "<") 0 x.length 1).isEmpty = true) (n34 : (Builtin.Str.occurrences x (PySem.Str.ofString "\"") 0 x.length 1).isEmpty = true) (n9 : (Builtin.Str.occurrences x (PySem.Str.ofString "\t") 0 x.length 1).isEmpty = true) (n10 : (Builtin.Str.occurrences x (PySem.Str.ofString "\n") 0 x.length 1).isEmpty = true) (h13 : (Builtin.Str.occurrences x (PySem.Str.ofString "\r") 0 x.length 1).isEmpty = false) 
    (hret : ∀ t h' tk', Fr h₀ L h' m → News h₀ L h' news → Q (.str y t) { s with heap := h', toks := tk' }) :
    wpAny (model pw w) (ktrTop dp un gd cn cs L a ccd cl outer) (call (.ref 221) [.str x tx]) Q E s := by
  
  refine wpAny_call ?_
  k_dflt (refine' code_defL ?k1 ?k2 ?k3 ?k4 ?k5 ?kA ?kF ?kK ?k6 ?kp ?kb ?ks ?k7 ?k8 ?k9 ?kB ?_ ?c2 ?c3 ?c4 ?c5; (case kA => exact rfl); (case kF => exact rfl); (case kK => assumption); (case k1 => k_asm); (case k2 => k_asm); (case k3 => k_asm); (case k4 => k_asm); (case k5 => k_asm); (case k6 => k_is); (case kp => conv => lhs; whnf); (case kb => conv => lhs; whnf); (case ks => conv => lhs; whnf); (case k7 => k_is); (case k8 => ktr_room); (case k9 => exact BindsTo.of_eq rfl); (case c5 => decide); (case kB => exact locs rfl); (case c2 => exact rfl); (case c3 => exact rfl); (case c4 => exact rfl); k_whole; intro gq9 Lq9 hq9 FGq9 Fq9 Nq9 Bq9 Xq9 Tq9; (try dsimp only); (try k_fold))
  (repeat' (first | (k_unfold; (try dsimp only)) | (k_end; wrow_close) | ((with_reducible show wpAny _ _ (call _ _) _ _ _); refine rep_any (by assumption) (by assumption) (by assumption) (by decide) (by decide) ?_; intro _ _) | walk1 | (dsimp only; walk1) | (leave1; (try dsimp only)) | fail))
  all_goals exact hret _ _ _ (by k_asm) (by k_asm)
end
section
set_option linter.unusedVariables false
set_option maxRecDepth 100000
set_option maxHeartbeats 4000000
noncomputable def b1L : List Int := [173, 847, 6150, 6155, 6156, 6157, 8203, 8204, 8205, 8288, 65279, 65024, 65025, 65026, 65027, 65028, 65029, 65030, 65031, 65032, 65033, 65034, 65035, 65036, 65037, 65038, 65039]
noncomputable def inB1 (k : Int) : Bool := b1L.contains k
noncomputable def setEs (P : Params) : Array (Int × Value) := match (o123 P).data with | .set es _ _ => es | _ => #[]
noncomputable def setT (P : Params) : SetTable := match (o123 P).data with | .set _ _ t => t | _ => default
noncomputable def intPair (e : Int × Value) : Bool := match e.2 with | .int k _ => k == e.1 && hashInt k == e.1 | _ => false
noncomputable def valKey (e : Int × Value) : Int := e.1
theorem set_es_ok (P : Params) : (setEs P).toList.all intPair = true := by kernel_rfl
theorem set_keys (P : Params) : (setEs P).toList.map valKey = [65024, 65025, 65026, 65027, 65028, 65029, 6150, 65030, 65031, 65032, 65033, 6155, 6156, 6157, 8203, 8204, 8205, 65034, 65035, 65036, 65037, 65038, 65039, 173, 847, 8288, 65279] := by kernel_rfl
theorem set_of {w : World} {h : Heap} (X : (K w.params).In h) : h.SetOf (intKind pw w) 123 inB1 27 := by
  have ho : h.get? 123 = some (o123 w.params) := X 123 _ rfl
  have hall := List.all_eq_true.mp (set_es_ok w.params)
  refine ⟨o123 w.params, setEs w.params, 29, setT w.params, ho, ⟨rfl, rfl, rfl⟩, rfl, fun e he => ?_, fun k => ?_, by rw [show (setEs w.params).size = 27 from by kernel_rfl]; decide, by kernel_rfl, rfl⟩
  · have := hall e he
    unfold intPair at this
    split at this
    · rename_i k t ek
      simp only [Bool.and_eq_true, beq_iff_eq] at this
      exact ⟨⟨k, by rw [ek]; exact beq_self_eq_true k, this.2.symm⟩, by rw [ek]; rfl⟩
    · cases this
  · have hk : inB1 k = true ↔ k ∈ (setEs w.params).toList.map valKey := by
      rw [set_keys]
      unfold inB1
      rw [List.contains_iff_mem]
      exact (List.isPerm_iff.mp (by decide +kernel)).mem_iff
    rw [hk]
    constructor
    · intro hm
      obtain ⟨e, he, rfl⟩ := List.mem_map.mp hm
      refine ⟨e, he, ?_⟩
      have := hall e he
      unfold intPair at this
      split at this
      · rename_i k t ek
        simp only [Bool.and_eq_true, beq_iff_eq] at this
        rw [ek]
        show (k == e.1) = true
        simpa using this.1
      · cases this
    · rintro ⟨e, he, hi⟩
      refine List.mem_map.mpr ⟨e, he, ?_⟩
      have := hall e he
      unfold intPair at this
      split at this
      · rename_i k' t ek
        simp only [Bool.and_eq_true, beq_iff_eq] at this
        rw [ek] at hi
        have hi' : (k' == k) = true := hi
        unfold valKey
        rw [← this.1]; exact beq_iff_eq.mp hi'
      · cases this
theorem in_set {w : World} {A : Around} {E : Value → Shared → Prop} {s : Shared} {h₀ : Heap} {L : Addr} {m : PySem.Str → Option Value} {k : Int} {t : Tok} {Q : Value → Shared → Prop} (F : Fr h₀ L s.heap m) (X : (K w.params).In h₀) (h : Q (.bool (inB1 k)) { s with toks := s.toks + 1 }) :
    wpAny (model pw w) A (compareOp .In (.int k t) (.ref 123)) Q E s :=
  wpAny_inSet_of (knd := intKind pw w) (k := k) (beq_self_eq_true k) rfl (set_of (X.keeps F.keep)) h
local macro_rules | `(tactic| walk_at "compareOp In int ref") => `(tactic| (k_here; k_dflt (refine in_set (by k_asm) (by k_asm) ?_)))
theorem low1 {prog : Program} {w : World} {A : Around} {E : Value → Shared → Prop} {s : Shared} {c : Nat} {y : PySem.Str} {t : Tok} {Q : Value → Shared → Prop} (hy : Txt.lower ⟨#[c]⟩ = y) (h : ∀ t' k, Q (.str y t') { s with toks := k }) :
    wpAny (model prog w) A (call (.builtin "str.lower") [.str ⟨#[c]⟩ t]) Q E s := SCL.lower (by show 1 ≤ 5592405; decide) (fun _ => by rw [hy]; exact h _ _)
local macro_rules | `(tactic| walk_at "call builtin:str.lower") => `(tactic| (k_here; (try dsimp only); refine low1 (by assumption) ?_; intro _ _))
noncomputable def keyOk (e : DictEntry) : Bool := match e.key with | .int k _ => hashInt k == e.hash | _ => false
theorem dM_keys : (mainE 37 398 xs11).all keyOk = true := by kernel_rfl
noncomputable def b3F (k : Int) : Option Value := findBy Value.isInt (mainE 37 398 xs11).toArray k
theorem map_of {w : World} {h : Heap} (X : (K w.params).In h) : h.MapOf (intKind pw w) 134 b3F := by
  have ho : h.get? 134 = some dM := X 134 _ rfl
  refine ⟨dM, (mainE 37 398 xs11).toArray, _, ho, ⟨rfl, rfl, rfl⟩, rfl, fun e he => ?_, fun k => rfl⟩
  have := List.all_eq_true.mp dM_keys e (by simpa using he)
  unfold keyOk at this
  split at this
  · rename_i k t ek
    exact ⟨k, by rw [ek]; exact beq_self_eq_true k, (beq_iff_eq.mp this).symm⟩
  · cases this
theorem get_meth {w : World} {A : Around} {E : Value → Shared → Prop} {s : Shared} {h₀ : Heap} {L : Addr} {m : PySem.Str → Option Value} {pl : Sem Bool} {Q : Value × List Value → Shared → Prop} (F : Fr h₀ L s.heap m) (X : (K w.params).In h₀) (h : Q (.builtin "dict.get", [.ref 134]) s) :
    wpAny (model pw w) A (getMethod (.ref 134) "get" pl) Q E s :=
  have hD := map_of (X.keeps F.keep)
  getMethod_builtin hD.typeIs PySem.F.plainAttrs_dict PySem.F.slot_dict_get PySem.F.type_dict_get hD.noDict h
theorem get_call {w : World} {A : Around} {E : Value → Shared → Prop} {s : Shared} {h₀ : Heap} {L : Addr} {m : PySem.Str → Option Value} {k : Int} {t : Tok} {x : Option Value} {Q : Value → Shared → Prop} (F : Fr h₀ L s.heap m) (X : (K w.params).In h₀) (hx : b3F k = x) (h : Q (x.getD .none) { s with toks := s.toks + 1 }) :
    wpAny (model pw w) A (call (.builtin "dict.get") [.ref 134, .int k t]) Q E s :=
  have hD := map_of (X.keeps F.keep)
  call_meetsIn PySem.F.slot_dict_get hD.typeIs PySem.F.entry_dict_get (PySem.F.args_dict_get_2 _ _) (meets_dict_get (intKind pw w) 134 (beq_self_eq_true k) rfl) ⟨_, hD, by rw [hx]; exact h⟩
local macro_rules | `(tactic| walk_at "getMethod ref") => `(tactic| (k_here; k_dflt (refine get_meth (by k_asm) (by k_asm) ?_)))
local macro_rules | `(tactic| walk_at "call builtin:dict.get") => `(tactic| (k_here; k_dflt (refine get_call (by k_asm) (by k_asm) (by assumption) ?_); try dsimp only [Option.getD]))
theorem con_inb1 {w : World} {p : Program} {loose : List PySem.Str} {mean : ExcName → Option Value} {mg mb : PySem.Str → Option Value} (dp un : Nat) (gd : Option (List Code)) (cn : PySem.Str) (cs : Scope) (a : Addr) (ccd : Value) (cl : List (PySem.Str × Addr)) (outer : List Env) (A₀ : Around) (base h₀ : Heap) (L : Addr) (m : PySem.Str → Option Value) (news : List (Addr × Obj)) (s : Shared) (c : Nat) (tx : Tok)
    (Q E : Value → Shared → Prop) (B : Below A₀ base outer h₀) (F : Fr h₀ L s.heap m) (X : (K w.params).In h₀) (N : News h₀ L s.heap news) (T : Top p loose mean mg mb h₀) (hk : cs.kind = .function) (hd : dp + 8 < recursionLimit) (hu : un + 64 < cLine) (hx : c < 1114112)
    (hret : ∀ h' tk', Fr h₀ L h' m → News h₀ L h' news → Q (.bool (inB1 c)) { s with heap := h', toks := tk' }) :
    wpAny (model pw w) (ktrTop dp un gd cn cs L a ccd cl outer) (call (.ref 133) [.str ⟨#[c]⟩ tx]) Q E s := by
  
  refine wpAny_call ?_
  k_dflt (refine' code_defL ?k1 ?k2 ?k3 ?k4 ?k5 ?kA ?kF ?kK ?k6 ?kp ?kb ?ks ?k7 ?k8 ?k9 ?kB ?_ ?c2 ?c3 ?c4 ?c5; (case kA => exact rfl); (case kF => exact rfl); (case kK => assumption); (case k1 => k_asm); (case k2 => k_asm); (case k3 => k_asm); (case k4 => k_asm); (case k5 => k_asm); (case k6 => k_is); (case kp => conv => lhs; whnf); (case kb => conv => lhs; whnf); (case ks => conv => lhs; whnf); (case k7 => k_is); (case k8 => ktr_room); (case k9 => exact BindsTo.of_eq rfl); (case c5 => decide); (case kB => exact locs rfl); (case c2 => exact rfl); (case c3 => exact rfl); (case c4 => exact rfl); k_whole; intro gq9 Lq9 hq9 FGq9 Fq9 Nq9 Bq9 Xq9 Tq9; (try dsimp only); (try k_fold))
  k_steps
  all_goals exact hret _ _ (by k_asm) (by k_asm)
theorem con_b3some {w : World} {p : Program} {loose : List PySem.Str} {mean : ExcName → Option Value} {mg mb : PySem.Str → Option Value} (dp un : Nat) (gd : Option (List Code)) (cn : PySem.Str) (cs : Scope) (a : Addr) (ccd : Value) (cl : List (PySem.Str × Addr)) (outer : List Env) (A₀ : Around) (base h₀ : Heap) (L : Addr) (m : PySem.Str → Option Value) (news : List (Addr × Obj)) (s : Shared) (c : Nat) (tx ty : Tok) (y : PySem.Str)
    (Q E : Value → Shared → Prop) (B : Below A₀ base outer h₀) (F : Fr h₀ L s.heap m) (X : (K w.params).In h₀) (N : News h₀ L s.heap news) (T : Top p loose mean mg mb h₀) (hk : cs.kind = .function) (hd : dp + 8 < recursionLimit) (hu : un + 64 < cLine) (hx : c < 1114112) (hb : b3F (c : Int) = some (.str y ty))
    (hret : ∀ h' tk', Fr h₀ L h' m → News h₀ L h' news → Q (.str y ty) { s with heap := h', toks := tk' }) :
    wpAny (model pw w) (ktrTop dp un gd cn cs L a ccd cl outer) (call (.ref 179) [.str ⟨#[c]⟩ tx]) Q E s := by
  
  refine wpAny_call ?_
  k_dflt (refine' code_defL ?k1 ?k2 ?k3 ?k4 ?k5 ?kA ?kF ?kK ?k6 ?kp ?kb ?ks ?k7 ?k8 ?k9 ?kB ?_ ?c2 ?c3 ?c4 ?c5; (case kA => exact rfl); (case kF => exact rfl); (case kK => assumption); (case k1 => k_asm); (case k2 => k_asm); (case k3 => k_asm); (case k4 => k_asm); (case k5 => k_asm); (case k6 => k_is); (case kp => conv => lhs; whnf); (case kb => conv => lhs; whnf); (case ks => conv => lhs; whnf); (case k7 => k_is); (case k8 => ktr_room); (case k9 => exact BindsTo.of_eq rfl); (case c5 => decide); (case kB => exact locs rfl); (case c2 => exact rfl); (case c3 => exact rfl); (case c4 => exact rfl); k_whole; intro gq9 Lq9 hq9 FGq9 Fq9 Nq9 Bq9 Xq9 Tq9; (try dsimp only); (try k_fold))
  k_steps
  all_goals exact hret _ _ (by k_asm) (by k_asm)
theorem con_b3none {w : World} {p : Program} {loose : List PySem.Str} {mean : ExcName → Option Value} {mg mb : PySem.Str → Option Value} (dp un : Nat) (gd : Option (List Code)) (cn : PySem.Str) (cs : Scope) (a : Addr) (ccd : Value) (cl : List (PySem.Str × Addr)) (outer : List Env) (A₀ : Around) (base h₀ : Heap) (L : Addr) (m : PySem.Str → Option Value) (news : List (Addr × Obj)) (s : Shared) (c : Nat) (tx : Tok) (y : PySem.Str)
    (Q E : Value → Shared → Prop) (B : Below A₀ base outer h₀) (F : Fr h₀ L s.heap m) (X : (K w.params).In h₀) (N : News h₀ L s.heap news) (T : Top p loose mean mg mb h₀) (hk : cs.kind = .function) (hd : dp + 8 < recursionLimit) (hu : un + 64 < cLine) (hx : c < 1114112) (hb : b3F (c : Int) = none) (hy : Txt.lower ⟨#[c]⟩ = y)
    (hret : ∀ t h' tk', Fr h₀ L h' m → News h₀ L h' news → Q (.str y t) { s with heap := h', toks := tk' }) :
    wpAny (model pw w) (ktrTop dp un gd cn cs L a ccd cl outer) (call (.ref 179) [.str ⟨#[c]⟩ tx]) Q E s := by
  
  refine wpAny_call ?_
  k_dflt (refine' code_defL ?k1 ?k2 ?k3 ?k4 ?k5 ?kA ?kF ?kK ?k6 ?kp ?kb ?ks ?k7 ?k8 ?k9 ?kB ?_ ?c2 ?c3 ?c4 ?c5; (case kA => exact rfl); (case kF => exact rfl); (case kK => assumption); (case k1 => k_asm); (case k2 => k_asm); (case k3 => k_asm); (case k4 => k_asm); (case k5 => k_asm); (case k6 => k_is); (case kp => conv => lhs; whnf); (case kb => conv => lhs; whnf); (case ks => conv => lhs; whnf); (case k7 => k_is); (case k8 => ktr_room); (case k9 => exact BindsTo.of_eq rfl); (case c5 => decide); (case kB => exact locs rfl); (case c2 => exact rfl); (case c3 => exact rfl); (case c4 => exact rfl); k_whole; intro gq9 Lq9 hq9 FGq9 Fq9 Nq9 Bq9 Xq9 Tq9; (try dsimp only); (try k_fold))
  k_steps
  all_goals exact hret _ _ _ (by k_asm) (by k_asm)
end
section
set_option linter.unusedVariables false
set_option maxRecDepth 100000
/- a for over a str, with the tokens told -/
noncomputable def StT (I : Addr) (xs : PySem.Str) (t : Tok) (i : Nat) (h : Heap) : Prop := h.IsStrIter I "str_ascii_iterator" xs t i ∨ h.IsStrIter I "str_iterator" xs t i
noncomputable def MapIs (x : PySem.Str) (M m : PySem.Str → Option Value) : Prop := ∀ y, y ≠ x → m y = M y
theorem MapIs.eq {x : PySem.Str} {M m : PySem.Str → Option Value} (h : MapIs x M m) : m = fun y => if y = x then m x else M y := by
  funext y
  by_cases e : y = x
  · rw [if_pos e, e]
  · rw [if_neg e]; exact h y e
theorem MapIs.over {x : PySem.Str} {M m : PySem.Str → Option Value} {v : Option Value} (h : MapIs x M m) : (fun y => if y = x then v else m y) = fun y => if y = x then v else M y := by
  funext y
  by_cases e : y = x
  · rw [if_pos e, if_pos e]
  · rw [if_neg e, if_neg e]; exact h y e
noncomputable def Halt (p : Prop) : Prop := p
theorem halt {p : Prop} (h : Halt p) : p := h
noncomputable def ovr (l : List (PySem.Str × Value)) (m : PySem.Str → Option Value) : PySem.Str → Option Value := fun y => match l.lookup y with | some v => some v | none => m y
theorem ovr_start {x : PySem.Str} {m : PySem.Str → Option Value} {l : List (PySem.Str × Value)} (h : ∀ p ∈ l, m p.1 = some p.2) : MapIs x (ovr l m) m := by
  intro y _
  unfold ovr
  cases e : l.lookup y with
  | none => rfl
  | some v =>
    have : (y, v) ∈ l := by
      clear h
      induction l with
      | nil => cases e
      | cons p l ih =>
        obtain ⟨a, b⟩ := p
        rw [List.lookup_cons] at e
        by_cases q : (y == a) = true
        · rw [q] at e; cases e; rw [beq_iff_eq.mp q]; exact List.mem_cons_self
        · rw [Bool.not_eq_true] at q; rw [q] at e; exact List.mem_cons_of_mem _ (ih e)
    exact h _ this
noncomputable def TurnT {σ : Type} (h₀ : Heap) (L : Addr) (x : PySem.Str) (own : List (Addr × Obj)) (I : Addr) (M : σ → PySem.Str → Option Value) (NW : σ → List (Addr × Obj)) (Inv : σ → Nat → Prop) (s : Shared) (Qr : Value → Shared → Prop) (Qb : Shared → Prop) (f : Flow) (s₂ : Shared) : Prop :=
  match f with
  | .ret v => Qr v s₂
  | .brk => Qb s₂
  | _ => ∃ h' tk a m', s₂ = { s with heap := h', toks := tk } ∧ Fr h₀ L h' m' ∧ News h₀ L h' (own ++ NW a) ∧ (∀ p ∈ NW a, p.1 ≠ I) ∧ MapIs x (M a) m' ∧ Inv a tk
theorem turn_end {σ : Type} {h₀ : Heap} {L : Addr} {x : PySem.Str} {own : List (Addr × Obj)} {I : Addr} {M : σ → PySem.Str → Option Value} {NW : σ → List (Addr × Obj)} {Inv : σ → Nat → Prop} {s : Shared} {Qr : Value → Shared → Prop} {Qb : Shared → Prop} {f : Flow} {h' : Heap} {tk : Nat} {m' : PySem.Str → Option Value}
    (hf : f = .next ∨ f = .cont) (a : σ) (F : Fr h₀ L h' m') (N : News h₀ L h' (own ++ NW a)) (hne : ∀ p ∈ NW a, p.1 ≠ I) (hm : MapIs x (M a) m') (hi : Inv a tk) : TurnT h₀ L x own I M NW Inv s Qr Qb f { s with heap := h', toks := tk } := by
  rcases hf with rfl | rfl <;> exact ⟨h', tk, a, m', rfl, F, N, hne, hm, hi⟩
theorem map1 {x c : PySem.Str} {v : Value} {m m' : PySem.Str → Option Value} (hc : m' c = some v) (h : ∀ y, y ≠ x → y ≠ c → m' y = m y) : MapIs x (ovr [(c, v)] m) m' := by
  intro y hy
  unfold ovr
  rw [List.lookup_cons, List.lookup_nil]
  by_cases q : y = c
  · subst q; rw [beq_self_eq_true]; exact hc
  · rw [beq_eq_false_iff_ne.mpr q]; exact h y hy q
section
variable {prog : Program} {w : World} {A : Around} {s : Shared} {env : Env} {h₀ : Heap}
theorem loopStr {σ : Type} {R : Result → Shared → Prop} {x : PySem.Str} {px : Pos} {body : List Stmt} {I : Addr} {xs : PySem.Str} {t : Tok} (hh : A.handled = none) (hx : env.kindOf x = some .local)
    (hp : (env.scope.kind == .class || (env.scope.kind == .module && env.locals != env.globals)) = false)
    (M : σ → PySem.Str → Option Value) (NW : σ → List (Addr × Obj)) (Inv : Nat → σ → Nat → Prop)
    (step : ∀ i c a h u oI m', xs.cps[i]? = some c → Inv i a u → MapIs x (M a) m' → Fr h₀ env.locals h (fun y => if y = x then some (.str ⟨#[c]⟩ u) else m' y) → (∀ p ∈ NW a, p.1 ≠ I) → News h₀ env.locals h ((I, oI) :: NW a) →
      wpAny (model prog w) A (execs body env) (TurnT h₀ env.locals x [(I, oI)] I M NW (Inv (i + 1)) s (fun v s' => R (.ok (.ret v)) s') fun s' => R (.ok .next) s') (notedBy (model prog w) A env fun e s' => R (.error e) s') { s with heap := h, toks := u + 2 })
    (hR : ∀ h' tk a m', Inv xs.cps.size a tk → MapIs x (M a) m' → Fr h₀ env.locals h' m' → News h₀ env.locals h' (NW a) → R (.ok .next) { s with heap := h', toks := tk })
    (hI : h₀.get? I = none) (hLI : env.locals ≠ I) (st : StT I xs t 0 s.heap) (a : σ) (m : PySem.Str → Option Value) (hm : MapIs x (M a) m) (F : Fr h₀ env.locals s.heap m) (hne : ∀ p ∈ NW a, p.1 ≠ I) (N : News h₀ env.locals s.heap (NW a)) (h0 : Inv 0 a s.toks) :
    codeAny (model prog w) A (.forLoop (.Name x px) (.ref I) body [] env) R s := by
  refine codeAny_forLoop
    (fun k s' => ∃ h' tk a m' i, s' = { s with heap := h', toks := tk } ∧ StT I xs t i h' ∧ MapIs x (M a) m' ∧ Fr h₀ env.locals h' m' ∧ News h₀ env.locals h' (NW a) ∧ (∀ p ∈ NW a, p.1 ≠ I) ∧ Inv i a tk ∧ i ≤ xs.cps.size ∧ k = xs.cps.size + 1 - i) ?_ (xs.cps.size + 1)
    ⟨s.heap, s.toks, a, m, 0, rfl, st, hm, F, N, hne, h0, Nat.zero_le _, rfl⟩
  rintro k s' ⟨h', tk, a, m', i, rfl, hst, hm', F', N', hne', hJ, hi, rfl⟩
  by_cases hlt : i < xs.cps.size
  · have hc : xs.cps[i]? = some xs.cps[i] := by simp [hlt]
    have go : ∀ h₁, StT I xs t (i + 1) h₁ → Heap.SameBut I h' h₁ →
        wpAny (model prog w) A (assign (.Name x px) env (.str ⟨#[xs.cps[i]]⟩ tk)) (fun _ s₂ => wpAny (model prog w) A (execs body env) (fun f s₃ => match f with
          | .next | .cont => ∃ m, m < xs.cps.size + 1 - i ∧ (∃ h' tk a m' i, s₃ = { s with heap := h', toks := tk } ∧ StT I xs t i h' ∧ MapIs x (M a) m' ∧ Fr h₀ env.locals h' m' ∧ News h₀ env.locals h' (NW a) ∧ (∀ p ∈ NW a, p.1 ≠ I) ∧ Inv i a tk ∧ i ≤ xs.cps.size ∧ m = xs.cps.size + 1 - i)
          | .brk => R (.ok .next) s₃
          | .ret v => R (.ok (.ret v)) s₃) (notedBy (model prog w) A env fun e s' => R (.error e) s') s₂) (notedBy (model prog w) A env fun e s' => R (.error e) s') { s with heap := h₁, toks := tk + 1 } := by
      intro h₁ hst₁ hs₁
      have F₁ : Fr h₀ env.locals h₁ m' := F'.change hs₁ (Ne.symm hLI) hI
      refine wpAny_assign_Name (wpAny_storeName_local hx F₁.ns (fun h₂ hn₂ hs₂ => ?_) hp)
      have F₂ := F₁.set hn₂ hs₂
      have hst₂ : StT I xs t (i + 1) h₂ := hst₁.elim (fun q => .inl (q.extBut hs₂.extBut (Ne.symm hLI))) fun q => .inr (q.extBut hs₂.extBut (Ne.symm hLI))
      obtain ⟨oI, hoI⟩ : ∃ o, h₂.get? I = some o := hst₂.elim (fun q => let ⟨o, ho, _⟩ := q; ⟨o, ho⟩) fun q => let ⟨o, ho, _⟩ := q; ⟨o, ho⟩
      have N₂ : News h₀ env.locals h₂ ([(I, oI)] ++ NW a) := by
        intro p hp
        rcases List.mem_append.mp hp with q | q
        · rw [List.mem_singleton.mp q]; exact ⟨hoI, Ne.symm hLI, hI⟩
        · have := N' p q
          refine ⟨?_, this.2⟩
          rw [hs₂.2 _ this.2.1, hs₁.2 _ (hne' p q)]; exact this.1
      refine wpAny_mono (step i _ a h₂ tk oI m' hc hJ hm' F₂ hne' N₂) (fun f s₃ h₃ => ?_) fun _ _ e => e
      cases f with
      | ret v => exact h₃
      | brk => exact h₃
      | next | cont =>
        obtain ⟨h₃', tk₃, a₃, m₃, rfl, F₃, N₃, hne₃, hm₃, hJ₃⟩ := h₃
        refine ⟨xs.cps.size + 1 - (i + 1), by omega, h₃', tk₃, a₃, m₃, i + 1, rfl, ?_, hm₃, F₃, fun p hp => N₃ p (List.mem_append_right _ hp), hne₃, hJ₃, hlt, rfl⟩
        have eI : h₃'.get? I = some oI := (N₃ (I, oI) (List.mem_append_left _ (List.mem_singleton.mpr rfl))).1
        rcases hst₂ with ⟨o, ho, r⟩ | ⟨o, ho, r⟩
        · rw [hoI] at ho; cases ho; exact .inl ⟨oI, eI, r⟩
        · rw [hoI] at ho; cases ho; exact .inr ⟨oI, eI, r⟩
    rcases hst with q | q
    · exact wpAny_pyNext_ascii_item q hc fun h₁ h2 h3 => go h₁ (.inl h2) h3
    · exact wpAny_pyNext_wide_item q hc fun h₁ h2 h3 => go h₁ (.inr h2) h3
  · have hin : i = xs.cps.size := by omega
    subst hin
    have fin : ∀ h₁, Heap.ExtBut I h' h₁ → wpAny (model prog w) A (execs [] env) (fun f s₃ => R (.ok f) s₃) (notedBy (model prog w) A env fun e s' => R (.error e) s') { s with heap := h₁, toks := tk } := by
      intro h₁ he
      refine wpAny_execs_nil (hR h₁ tk a m' hJ hm' ⟨F'.ns.at' fun o e => he _ o hLI e, fun b o e => he b o (fun q => by rw [← q, e] at hI; cases hI) (F'.keep b o e), F'.above⟩ fun p hp => ⟨he _ _ (hne' p hp) (N' p hp).1, (N' p hp).2⟩)
    rcases hst with q | q
    · exact wpAny_pyNext_ascii_end hh q (by simp) fun h₁ he => fin h₁ he
    · exact wpAny_pyNext_wide_end hh q (by simp) fun h₁ he => fin h₁ he
theorem For_str {σ : Type} {E : Value → Shared → Prop} {Q : Flow → Shared → Prop} {x : PySem.Str} {px pos : Pos} {iter : Expr} {body : List Stmt} {xs : PySem.Str} {t : Tok} {m₀ : PySem.Str → Option Value} (F : Fr h₀ env.locals s.heap m₀)
    (hh : A.handled = none) (hx : env.kindOf x = some .local)
    (hp : (env.scope.kind == .class || (env.scope.kind == .module && env.locals != env.globals)) = false)
    (hv : ∀ {Q' : Value → Shared → Prop}, Q' (.str xs t) s → wpAny (model prog w) A (eval iter env) Q' E s)
    (ov : σ → List (PySem.Str × Value)) (NW : σ → List (Addr × Obj)) (Inv : Nat → σ → Nat → Prop) (a₀ : σ) (hm : ∀ p ∈ ov a₀, m₀ p.1 = some p.2) (N : News h₀ env.locals s.heap (NW a₀)) (h0 : Inv 0 a₀ s.toks)
    (step : ∀ i c a h u oI I, xs.cps[i]? = some c → Inv i a u → Fr h₀ env.locals h (fun y => if y = x then some (.str ⟨#[c]⟩ u) else ovr (ov a) m₀ y) → (∀ p ∈ NW a, p.1 ≠ I) → News h₀ env.locals h ((I, oI) :: NW a) →
      wpAny (model prog w) A (execs body env) (TurnT h₀ env.locals x [(I, oI)] I (fun a => ovr (ov a) m₀) NW (Inv (i + 1)) s (fun v s' => Q (.ret v) s') fun s' => Q .next s') E { s with heap := h, toks := u + 2 })
    (hR : ∀ h' tk a u, Inv xs.cps.size a tk → Fr h₀ env.locals h' (fun y => if y = x then u else ovr (ov a) m₀ y) → News h₀ env.locals h' (NW a) → Q .next { s with heap := h', toks := tk })
    (hs : ∀ x, foldedSetIterable iter env x = pure x := by intro _; rfl)
    (hE : PassesOwn (model prog w) A env E := by passes_own) :
    wpAny (model prog w) A (exec (.For (.Name x px) iter body [] pos) env) Q E s := by
  refine wpAny_For (hv ?_) hs
  have hI : h₀.get? s.heap.objs.size = none := F.fresh
  have hL : env.locals ≠ s.heap.objs.size := Nat.ne_of_lt F.ns.lt
  have go : ∀ o, o.isFreed = false → StT s.heap.objs.size xs t 0 (s.heap.push o) → codeAny (model prog w) A (.forLoop (.Name x px) (.ref s.heap.objs.size) body [] env) (fun r s' => match r with | .ok f => Q f s' | .error e => cameBackBy (model prog w) A env E e s') { s with heap := s.heap.push o } := by
    intro o hfree hst
    refine loopStr (h₀ := h₀) (R := fun r s' => match r with | .ok f => Q f s' | .error e => cameBackBy (model prog w) A env E e s') hh hx hp (fun a => ovr (ov a) m₀) NW Inv ?_ (fun h' tk a m' h1 h2 h3 h4 => hR h' tk a (m' x) h1 ((MapIs.eq h2) ▸ h3) h4) hI hL hst a₀ m₀ (ovr_start hm) (F.push o) (fun p hp => N.apart p hp) (N.pushKeep o) h0
    intro i c a h u oI m' h1 h2 h3 h4 h5 h7
    exact wpAny_passesOwn hE (step i c a h u oI _ h1 h2 (MapIs.over h3 ▸ h4) h5 h7)
  cases ha : xs.cps.all (· < 128)
  · exact wpAny_pyIter_wide ha (go _ rfl (.inr ⟨_, Heap.get?_push_size _ rfl, rfl, rfl⟩))
  · exact wpAny_pyIter_ascii ha (go _ rfl (.inl ⟨_, Heap.get?_push_size _ rfl, rfl, rfl⟩))
theorem For_strA {σ : Type} {E : Value → Shared → Prop} {Q : Flow → Shared → Prop} {x : PySem.Str} {px pos : Pos} {iter : Expr} {body : List Stmt} {xs : PySem.Str} {t : Tok} {m₀ : PySem.Str → Option Value} (F : Fr h₀ env.locals s.heap m₀)
    (hh : A.handled = none) (hx : env.kindOf x = some .local)
    (hp : (env.scope.kind == .class || (env.scope.kind == .module && env.locals != env.globals)) = false)
    (hv : ∀ {Q' : Value → Shared → Prop}, (∀ k, Q' (.str xs t) { s with toks := k }) → wpAny (model prog w) A (eval iter env) Q' E s)
    (ov : σ → List (PySem.Str × Value)) (NW : σ → List (Addr × Obj)) (Inv : Nat → σ → Nat → Prop) (a₀ : σ) (hm : ∀ p ∈ ov a₀, m₀ p.1 = some p.2) (N : News h₀ env.locals s.heap (NW a₀)) (h0 : ∀ k, Inv 0 a₀ k)
    (step : ∀ i c a h u oI I, xs.cps[i]? = some c → Inv i a u → Fr h₀ env.locals h (fun y => if y = x then some (.str ⟨#[c]⟩ u) else ovr (ov a) m₀ y) → (∀ p ∈ NW a, p.1 ≠ I) → News h₀ env.locals h ((I, oI) :: NW a) →
      wpAny (model prog w) A (execs body env) (TurnT h₀ env.locals x [(I, oI)] I (fun a => ovr (ov a) m₀) NW (Inv (i + 1)) s (fun v s' => Q (.ret v) s') fun s' => Q .next s') E { s with heap := h, toks := u + 2 })
    (hR : ∀ h' tk a u, Inv xs.cps.size a tk → Fr h₀ env.locals h' (fun y => if y = x then u else ovr (ov a) m₀ y) → News h₀ env.locals h' (NW a) → Q .next { s with heap := h', toks := tk })
    (hs : ∀ x, foldedSetIterable iter env x = pure x := by intro _; rfl)
    (hE : PassesOwn (model prog w) A env E := by passes_own) :
    wpAny (model prog w) A (exec (.For (.Name x px) iter body [] pos) env) Q E s := by
  refine wpAny_For (hv fun k => ?_) hs
  have hI : h₀.get? s.heap.objs.size = none := F.fresh
  have hL : env.locals ≠ s.heap.objs.size := Nat.ne_of_lt F.ns.lt
  have go : ∀ o, o.isFreed = false → StT s.heap.objs.size xs t 0 (s.heap.push o) → codeAny (model prog w) A (.forLoop (.Name x px) (.ref s.heap.objs.size) body [] env) (fun r s' => match r with | .ok f => Q f s' | .error e => cameBackBy (model prog w) A env E e s') { s with heap := s.heap.push o, toks := k } := by
    intro o hfree hst
    refine loopStr (h₀ := h₀) (R := fun r s' => match r with | .ok f => Q f s' | .error e => cameBackBy (model prog w) A env E e s') hh hx hp (fun a => ovr (ov a) m₀) NW Inv ?_ (fun h' tk a m' h1 h2 h3 h4 => hR h' tk a (m' x) h1 ((MapIs.eq h2) ▸ h3) h4) hI hL hst a₀ m₀ (ovr_start hm) (F.push o) (fun p hp => N.apart p hp) (N.pushKeep o) (h0 k)
    intro i c a h u oI m' h1 h2 h3 h4 h5 h7
    exact wpAny_passesOwn hE (step i c a h u oI _ h1 h2 (MapIs.over h3 ▸ h4) h5 h7)
  cases ha : xs.cps.all (· < 128)
  · exact wpAny_pyIter_wide ha (go _ rfl (.inr ⟨_, Heap.get?_push_size _ rfl, rfl, rfl⟩))
  · exact wpAny_pyIter_ascii ha (go _ rfl (.inl ⟨_, Heap.get?_push_size _ rfl, rfl, rfl⟩))
theorem For_strH {σ : Type} {E : Value → Shared → Prop} {Q : Flow → Shared → Prop} {x : PySem.Str} {px pos : Pos} {iter : Expr} {body : List Stmt} {xs : PySem.Str} {t : Tok} {m₀ : PySem.Str → Option Value} (F : Fr h₀ env.locals s.heap m₀)
    (hh : A.handled = none) (hx : env.kindOf x = some .local)
    (hp : (env.scope.kind == .class || (env.scope.kind == .module && env.locals != env.globals)) = false)
    (hv : ∀ {Q' : Value → Shared → Prop}, (∀ k, Q' (.str xs t) { s with toks := k }) → wpAny (model prog w) A (eval iter env) Q' E s)
    (ov : σ → List (PySem.Str × Value)) (hd : σ → Addr × Obj) (base : List (Addr × Obj)) (Inv₀ : Nat → σ → Nat → Prop) (a₀ : σ) (hm : ∀ p ∈ ov a₀, m₀ p.1 = some p.2) (N : News h₀ env.locals s.heap ((hd a₀ :: base))) (h0 : ∀ k, Inv₀ 0 a₀ k) (hA : AllLt (hd a₀).1 base)
    (step : ∀ i c a h u oI I, xs.cps[i]? = some c → Inv₀ i a u → AllLt (hd a).1 base → Fr h₀ env.locals h (fun y => if y = x then some (.str ⟨#[c]⟩ u) else ovr (ov a) m₀ y) → (∀ p ∈ hd a :: base, p.1 ≠ I) → News h₀ env.locals h ((I, oI) :: hd a :: base) →
      wpAny (model prog w) A (execs body env) (TurnT h₀ env.locals x [(I, oI)] I (fun a => ovr (ov a) m₀) (fun a => hd a :: base) (fun a k => Inv₀ (i + 1) a k ∧ AllLt (hd a).1 base) s (fun v s' => Q (.ret v) s') fun s' => Q .next s') E { s with heap := h, toks := u + 2 })
    (hR : ∀ h' tk a u, Inv₀ xs.cps.size a tk → AllLt (hd a).1 base → Fr h₀ env.locals h' (fun y => if y = x then u else ovr (ov a) m₀ y) → News h₀ env.locals h' (hd a :: base) → Q .next { s with heap := h', toks := tk })
    (hs : ∀ x, foldedSetIterable iter env x = pure x := by intro _; rfl)
    (hE : PassesOwn (model prog w) A env E := by passes_own) :
    wpAny (model prog w) A (exec (.For (.Name x px) iter body [] pos) env) Q E s :=
  For_strA F hh hx hp hv ov (fun a => hd a :: base) (fun i a k => Inv₀ i a k ∧ AllLt (hd a).1 base) a₀ hm N (fun k => ⟨h0 k, hA⟩) (fun i c a h u oI I h1 h2 h3 h4 h5 => step i c a h u oI I h1 h2.1 h2.2 h3 h4 h5) (fun h' tk a u h1 h2 h3 => hR h' tk a u h1.1 h1.2 h2 h3) hs hE
theorem For_strB {σ : Type} {E : Value → Shared → Prop} {Q : Flow → Shared → Prop} {x : PySem.Str} {px pos : Pos} {iter : Expr} {body : List Stmt} {xs : PySem.Str} {t : Tok} {m₀ : PySem.Str → Option Value} (F : Fr h₀ env.locals s.heap m₀)
    (hh : A.handled = none) (hx : env.kindOf x = some .local)
    (hp : (env.scope.kind == .class || (env.scope.kind == .module && env.locals != env.globals)) = false)
    (hv : ∀ {Q' : Value → Shared → Prop}, (∀ k, Q' (.str xs t) { s with toks := k }) → wpAny (model prog w) A (eval iter env) Q' E s)
    (ov : σ → List (PySem.Str × Value)) (hd : σ → Addr × Obj) (base : List (Addr × Obj)) (Inv₀ : Nat → σ → Nat → Prop) (Dn : σ → Prop) (a₀ : σ) (hm : ∀ p ∈ ov a₀, m₀ p.1 = some p.2) (N : News h₀ env.locals s.heap ((hd a₀ :: base))) (h0 : ∀ k, Inv₀ 0 a₀ k) (hA : AllLt (hd a₀).1 base)
    (step : ∀ i c a h u oI I, xs.cps[i]? = some c → Inv₀ i a u → AllLt (hd a).1 base → Fr h₀ env.locals h (fun y => if y = x then some (.str ⟨#[c]⟩ u) else ovr (ov a) m₀ y) → (∀ p ∈ hd a :: base, p.1 ≠ I) → News h₀ env.locals h ((I, oI) :: hd a :: base) →
      wpAny (model prog w) A (execs body env) (TurnT h₀ env.locals x [(I, oI)] I (fun a => ovr (ov a) m₀) (fun a => hd a :: base) (fun a k => Inv₀ (i + 1) a k ∧ AllLt (hd a).1 base) s (fun v s' => Q (.ret v) s') fun s' => ∃ h' tk a u, s' = { s with heap := h', toks := tk } ∧ Dn a ∧ AllLt (hd a).1 base ∧ Fr h₀ env.locals h' (fun y => if y = x then u else ovr (ov a) m₀ y) ∧ News h₀ env.locals h' (hd a :: base)) E { s with heap := h, toks := u + 2 })
    (hDn : ∀ a tk, Inv₀ xs.cps.size a tk → Dn a)
    (hR : ∀ h' tk a u, Dn a → AllLt (hd a).1 base → Fr h₀ env.locals h' (fun y => if y = x then u else ovr (ov a) m₀ y) → News h₀ env.locals h' (hd a :: base) → Q .next { s with heap := h', toks := tk })
    (hs : ∀ x, foldedSetIterable iter env x = pure x := by intro _; rfl)
    (hE : PassesOwn (model prog w) A env E := by passes_own) :
    wpAny (model prog w) A (exec (.For (.Name x px) iter body [] pos) env) Q E s :=
  For_strH F hh hx hp hv ov hd base Inv₀ a₀ hm N h0 hA (fun i c a h u oI I h1 h2 h3 h4 h5 h6 => wpAny_mono (step i c a h u oI I h1 h2 h3 h4 h5 h6) (fun f s₃ h₃ => by
    cases f with
    | brk => obtain ⟨h', tk, a, u, rfl, q1, q2, q3, q4⟩ := h₃; exact hR h' tk a u q1 q2 q3 q4
    | _ => exact h₃) fun _ _ e => e) (fun h' tk a u h1 h2 h3 h4 => hR h' tk a u (hDn a tk h1) h2 h3 h4) hs hE
end
end
section
set_option linter.unusedVariables false
set_option maxRecDepth 100000
section
variable {prog : Program} {w : World} {A : Around} {E : Value → Shared → Prop} {s : Shared} {env : Env} {h₀ : Heap} {x : PySem.Str} {body : List Stmt} {Q : Flow → Shared → Prop}
noncomputable def BrkS {σ : Type} (h₀ : Heap) (L : Addr) (x : PySem.Str) (M : σ → PySem.Str → Option Value) (NW : σ → List (Addr × Obj)) (Dn : σ → Prop) (s s₂ : Shared) : Prop :=
  ∃ h' tk a m', s₂ = { s with heap := h', toks := tk } ∧ Dn a ∧ Fr h₀ L h' m' ∧ MapIs x (M a) m' ∧ News h₀ L h' (NW a)
theorem iterS {σ : Type} {I : Addr} {fp : List Addr} {n : Nat} {P : Nat → Value → Prop} {St : Nat → Heap → Prop} {m₀ : PySem.Str → Option Value} (W : Walks prog w A I fp [I] n P St) (hIf : I ∈ fp)
    (ov : σ → List (PySem.Str × Value)) (NW : σ → List (Addr × Obj)) (Inv : Nat → σ → Prop) (Dn : σ → Prop) (a₀ : σ)
    (hfp : ∀ b ∈ fp, b ≠ I → (∃ o, h₀.get? b = some o) ∨ ∃ o, ∀ i a, Inv i a → (b, o) ∈ NW a)
    (hLf : env.locals ∉ fp) (hI₀ : h₀.get? I = none) (hSt : ∀ i h, St i h → ∃ o, h.get? I = some o) (hst : St 0 s.heap)
    (hm : ∀ p ∈ ov a₀, m₀ p.1 = some p.2) (F : Fr h₀ env.locals s.heap m₀) (N : News h₀ env.locals s.heap (NW a₀)) (hnw : ∀ p ∈ NW a₀, p.1 ≠ I) (h0 : Inv 0 a₀)
    (turn : ∀ i v a h tk oI, i < n → P i v → Inv i a → Fr h₀ env.locals h (fun y => if y = x then some v else ovr (ov a) m₀ y) → (∀ p ∈ NW a, p.1 ≠ I) → News h₀ env.locals h ((I, oI) :: NW a) →
      wpAny (model prog w) A (execs body env) (TurnT h₀ env.locals x [(I, oI)] I (fun a => ovr (ov a) m₀) NW (fun a _ => Inv (i + 1) a) { s with heap := h, toks := tk } (fun v s' => Q (.ret v) s') (BrkS h₀ env.locals x (fun a => ovr (ov a) m₀) NW Dn { s with heap := h, toks := tk })) E { s with heap := h, toks := tk })
    (hDn : ∀ a, Inv n a → Dn a)
    (done : ∀ a u h tk, Dn a → Fr h₀ env.locals h (fun y => if y = x then u else ovr (ov a) m₀ y) → News h₀ env.locals h (NW a) → Q .next { s with heap := h, toks := tk }) :
    LoopAtV prog w A h₀ env x body Q E (.ref I) s := by
  let J : Nat → (PySem.Str → Option Value) → List (Addr × Obj) → Prop := fun i m news => ∃ a, news = NW a ∧ MapIs x (ovr (ov a) m₀) m ∧ Inv i a
  refine ⟨I, fp, [I], n, P, St, m₀, NW a₀, J, rfl, W, hLf, ?_, ?_, hst, F, N, ⟨a₀, rfl, ovr_start hm, h0⟩, ?_, ?_⟩
  · intro b hb
    rw [List.mem_singleton.mp hb]
    exact hI₀
  · intro p hp hI
    exact hnw p hp (List.mem_singleton.mp hI)
  · rintro i v m₁ news₁ s₁ own ⟨hh', tk', rfl⟩ hin hP ⟨a, rfl, hma, hJ⟩ hoff h5 h6 h7 hs F₁ N₁
    obtain ⟨oI, hoI⟩ := hSt _ _ hs
    have hne : ∀ p ∈ NW a, p.1 ≠ I := fun p hp q => hoff p hp (List.mem_singleton.mpr q)
    have NI : News h₀ env.locals hh' ((I, oI) :: NW a) := fun p hp => by
      rcases List.mem_cons.mp hp with rfl | hp
      · exact N₁ _ (List.mem_append.mpr (.inl (h7 I hIf hI₀ oI hoI)))
      · exact N₁ p (List.mem_append.mpr (.inr hp))
    refine wpAny_mono (turn i v a hh' tk' oI hin hP hJ (MapIs.over hma ▸ F₁) hne NI) (fun f s₂ p => ?_) fun _ _ e => e
    have fin : (∃ h' tk a m', s₂ = { s with heap := h', toks := tk } ∧ Fr h₀ env.locals h' m' ∧ News h₀ env.locals h' ([(I, oI)] ++ NW a) ∧ (∀ p ∈ NW a, p.1 ≠ I) ∧ MapIs x (ovr (ov a) m₀) m' ∧ Inv (i + 1) a) → LoopStepU h₀ env.locals [I] own (J (i + 1)) { s with heap := hh', toks := tk' } .next s₂ := by
      rintro ⟨h', tk, a', m', rfl, F', N', hne', hm', hi'⟩
      refine ⟨rfl, h', tk, m', NW a', rfl, F', fun p hp => ?_, fun p hp q => hne' p hp (List.mem_singleton.mp q), a', rfl, hm', hi'⟩
      rcases List.mem_append.mp hp with hp | hp
      · have old := N₁ p (List.mem_append.mpr (.inl hp))
        by_cases q : p.1 = I
        · have c := old.1
          rw [q] at c
          have e : p = (I, oI) := Prod.ext q (Option.some.inj (c.symm.trans hoI))
          rw [e]; exact N' _ (List.mem_append.mpr (.inl (List.mem_singleton.mpr rfl)))
        · rcases hfp p.1 (h5 p hp) q with ⟨o, ho⟩ | ⟨o, ho⟩
          · rw [old.2.2] at ho; cases ho
          · have c1 := (N₁ _ (List.mem_append.mpr (.inr (ho _ _ hJ)))).1
            have c := old.1
            have e : p.2 = o := Option.some.inj (c.symm.trans c1)
            have e2 : p = (p.1, o) := Prod.ext rfl e
            rw [e2]; exact N' _ (List.mem_append.mpr (.inr (ho _ _ hi')))
      · exact N' p (List.mem_append.mpr (.inr hp))
    cases f with
    | ret v => exact .ret p
    | brk =>
      obtain ⟨h', tk, a', m', rfl, hd, F', hm', N'⟩ := p
      exact .brk (done a' (m' x) h' tk hd (MapIs.eq hm' ▸ F') N')
    | next => exact .next (fin p)
    | cont => exact .cont (fin p)
  · rintro h' tk m' news' F' N' _ ⟨a, rfl, hma, hJ⟩
    exact done a (m' x) h' tk (hDn a hJ) (MapIs.eq hma ▸ F') N'
theorem brk_end {σ : Type} {h₀ : Heap} {L : Addr} {x : PySem.Str} {M : σ → PySem.Str → Option Value} {NW : σ → List (Addr × Obj)} {Dn : σ → Prop} {s : Shared} {h' : Heap} {tk : Nat} {m' : PySem.Str → Option Value}
    (a : σ) (hd : Dn a) (F : Fr h₀ L h' m') (hm : MapIs x (M a) m') (N : News h₀ L h' (NW a)) : BrkS h₀ L x M NW Dn s { s with heap := h', toks := tk } := ⟨h', tk, a, m', rfl, hd, F, hm, N⟩
theorem iter_range {σ : Type} {r : Addr} {x₀ x₁ : Int} {t₀ u₀ v₀ : Tok} {n : Nat} {m₀ : PySem.Str → Option Value} (F : Fr h₀ env.locals s.heap m₀)
    (hh : A.handled = none) (hr : IsRange s.heap r x₀ x₁ 1 t₀ u₀ v₀) (hsmall : Builtin.Range.small x₀ x₁ 1 = true) (hn : Builtin.Range.rangeSize x₀ x₁ 1 = (n : Int))
    (ov : σ → List (PySem.Str × Value)) (NW : σ → List (Addr × Obj)) (Inv : Nat → σ → Prop) (Dn : σ → Prop) (a₀ : σ)
    (hm : ∀ p ∈ ov a₀, m₀ p.1 = some p.2) (N : News h₀ env.locals s.heap (NW a₀)) (h0 : Inv 0 a₀)
    (turn : ∀ i t a h tk I oI, i < n → Inv i a → Fr h₀ env.locals h (fun y => if y = x then some (.int (x₀ + (i : Int)) t) else ovr (ov a) m₀ y) → (∀ p ∈ NW a, p.1 ≠ I) → News h₀ env.locals h ((I, oI) :: NW a) →
      wpAny (model prog w) A (execs body env) (TurnT h₀ env.locals x [(I, oI)] I (fun a => ovr (ov a) m₀) NW (fun a _ => Inv (i + 1) a) { s with heap := h, toks := tk } (fun v s' => Q (.ret v) s') (BrkS h₀ env.locals x (fun a => ovr (ov a) m₀) NW Dn { s with heap := h, toks := tk })) E { s with heap := h, toks := tk })
    (hDn : ∀ a, Inv n a → Dn a)
    (done : ∀ a u h tk, Dn a → Fr h₀ env.locals h (fun y => if y = x then u else ovr (ov a) m₀ y) → News h₀ env.locals h (NW a) → Q .next { s with heap := h, toks := tk }) :
    wpAny (model prog w) A (pyIter (.ref r)) (fun it s₂ => LoopAtV prog w A h₀ env x body Q E it s₂) E s := by
  refine wpAny_pyIter_range hr hsmall ?_
  have W : Walks prog w A s.heap.objs.size [s.heap.objs.size] [s.heap.objs.size] n (fun i v => i < n ∧ ∃ t, v = .int (x₀ + i * 1) t)
      (fun i h => IsRangeIter h s.heap.objs.size (x₀ + (i : Nat) * 1) ((n : Int) - (i : Nat)) 1) := (Walks.range hh _ x₀ 1 n).bound
  refine iterS W (List.mem_singleton.mpr rfl) ov NW Inv Dn a₀ (fun b hb q => absurd (List.mem_singleton.mp hb) q) ?_ (next_is_new F) (fun i h st => ⟨_, st⟩) (by show IsRangeIter _ _ _ _ _; rw [hn]; simpa using Heap.get?_push_size _ rfl) hm (F.push _) (fun p hp => ⟨Heap.get?_push_of_some _ (N p hp).1, (N p hp).2⟩) (fun p hp => Nat.ne_of_lt (Heap.lt_size (N p hp).1)) h0 ?_ hDn done
  · intro hm
    exact absurd F.ns.lt ((List.mem_singleton.mp hm) ▸ Nat.lt_irrefl _)
  · rintro i v a h tk oI hi ⟨_, t, rfl⟩ hinv F₁ hne N₁
    rw [show x₀ + (i : Int) * 1 = x₀ + (i : Int) by omega] at F₁
    exact turn i t a h tk _ oI hi hinv F₁ hne N₁
theorem iter_list {σ : Type} {l : Addr} {its : Array Value} {m₀ : PySem.Str → Option Value} (F : Fr h₀ env.locals s.heap m₀)
    (hh : A.handled = none) (hl : s.heap.IsList l its)
    (ov : σ → List (PySem.Str × Value)) (NW : σ → List (Addr × Obj)) (Inv : Nat → σ → Prop) (Dn : σ → Prop) (a₀ : σ)
    (hsrc : (∃ o, h₀.get? l = some o) ∨ ∃ o, ∀ i a, Inv i a → (l, o) ∈ NW a)
    (hm : ∀ p ∈ ov a₀, m₀ p.1 = some p.2) (N : News h₀ env.locals s.heap (NW a₀)) (h0 : Inv 0 a₀) (hL : env.locals ≠ l)
    (turn : ∀ i v a h tk I oI, its[i]? = some v → Inv i a → Fr h₀ env.locals h (fun y => if y = x then some v else ovr (ov a) m₀ y) → (∀ p ∈ NW a, p.1 ≠ I) → News h₀ env.locals h ((I, oI) :: NW a) →
      wpAny (model prog w) A (execs body env) (TurnT h₀ env.locals x [(I, oI)] I (fun a => ovr (ov a) m₀) NW (fun a _ => Inv (i + 1) a) { s with heap := h, toks := tk } (fun v s' => Q (.ret v) s') (BrkS h₀ env.locals x (fun a => ovr (ov a) m₀) NW Dn { s with heap := h, toks := tk })) E { s with heap := h, toks := tk })
    (hDn : ∀ a, Inv its.size a → Dn a)
    (done : ∀ a u h tk, Dn a → Fr h₀ env.locals h (fun y => if y = x then u else ovr (ov a) m₀ y) → News h₀ env.locals h (NW a) → Q .next { s with heap := h, toks := tk }) :
    wpAny (model prog w) A (pyIter (.ref l)) (fun it s₂ => LoopAtV prog w A h₀ env x body Q E it s₂) E s := by
  obtain ⟨ol, hol, _⟩ := id hl
  have hne : l ≠ s.heap.objs.size := Nat.ne_of_lt (Heap.lt_size hol)
  refine wpAny_pyIter_list hl ?_
  have W := Walks.list (prog := prog) (w := w) hh s.heap.objs.size l hne its
  refine iterS W List.mem_cons_self ov NW Inv Dn a₀ (fun b hb q => ?_) ?_ (next_is_new F) (fun i h st => by obtain ⟨o, e, _⟩ := st.1; exact ⟨o, e⟩) ⟨⟨_, Heap.get?_push_size _ rfl, rfl, rfl⟩, hl.at fun o e => Heap.get?_push_of_some _ e⟩ hm (F.push _) (fun p hp => ⟨Heap.get?_push_of_some _ (N p hp).1, (N p hp).2⟩) (fun p hp => Nat.ne_of_lt (Heap.lt_size (N p hp).1)) h0 ?_ hDn done
  · rcases List.mem_cons.mp hb with e | hb
    · exact absurd e q
    · rw [List.mem_singleton.mp hb]; exact hsrc
  · intro hm
    rcases List.mem_cons.mp hm with e | hm
    · exact absurd F.ns.lt (e ▸ Nat.lt_irrefl _)
    · exact hL (List.mem_singleton.mp hm)
  · rintro i v a h tk oI hi hv hinv F₁ hne N₁
    exact turn i v a h tk _ oI hv hinv F₁ hne N₁
end
end
section
set_option linter.unusedVariables false
set_option maxRecDepth 100000
section
variable {prog : Program} {w : World} {A : Around} {E : Value → Shared → Prop} {s : Shared} {h₀ : Heap} {L a : Addr} {news : List (Addr × Obj)} {value slice : PySem.Expr} {its : Array Value} {n : Nat} {k : Int} {u : Tok} {Q : Value → Shared → Prop}
theorem list_at {x : Value} (N : News h₀ L s.heap news) (hm : (a, W.listOf its n) ∈ news) (h0 : 0 ≤ k) (hz : k < 2 ^ 62) (hx : its[k.toNat]? = some x) (h : Q x s)
    (hs : subscripted slice false (.ref a) (.int k u) = operate [.ref a, .int k u] (getItem (.ref a) (.int k u)) := by with_unfolding_all rfl) (hg : ∀ r, letTemporaryGo value (.ref a) r = pure () := by intro _; with_unfolding_all rfl) :
    wpAny (model prog w) A (subscriptTail value slice (.ref a) (.int k u)) Q E s :=
  subscriptTail_builtin (N.isList hm).typeIs slot_list_getitem.lookup (wpAny_getItem_list (N.isList hm) h0 (by omega) hx h) hs hg
theorem list_neg {x : Value} (N : News h₀ L s.heap news) (hm : (a, W.listOf its n) ∈ news) (h0 : k < 0) (h1 : -(its.size : Int) ≤ k) (hz : -(2 ^ 62) < k) (hx : its[(k + its.size).toNat]? = some x) (h : Q x s)
    (hs : subscripted slice false (.ref a) (.int k u) = operate [.ref a, .int k u] (getItem (.ref a) (.int k u)) := by with_unfolding_all rfl) (hg : ∀ r, letTemporaryGo value (.ref a) r = pure () := by intro _; with_unfolding_all rfl) :
    wpAny (model prog w) A (subscriptTail value slice (.ref a) (.int k u)) Q E s :=
  subscriptTail_builtin (N.isList hm).typeIs slot_list_getitem.lookup (wpAny_getItem_list_neg (N.isList hm) h0 h1 (by omega) hx h) hs hg
theorem list_int {vs : List Value} {ns : List Int} (N : News h₀ L s.heap news) (hm : (a, W.listOf vs.toArray n) ∈ news) (hi : IntsAre vs ns) (h0 : 0 ≤ k) (h1 : k < ns.length) (hz : k < 2 ^ 62) (h : ∀ t, Q (.int (ns.getD k.toNat 0) t) s)
    (hs : subscripted slice false (.ref a) (.int k u) = operate [.ref a, .int k u] (getItem (.ref a) (.int k u)) := by with_unfolding_all rfl) (hg : ∀ r, letTemporaryGo value (.ref a) r = pure () := by intro _; with_unfolding_all rfl) :
    wpAny (model prog w) A (subscriptTail value slice (.ref a) (.int k u)) Q E s := by
  obtain ⟨t, hx⟩ := hi.get k.toNat _ (ints_getD h0 h1)
  exact list_at N hm h0 hz (by simpa using hx) (h t) hs hg
theorem list_last {vs : List Value} {ns : List Int} {b : Int} (N : News h₀ L s.heap news) (hm : (a, W.listOf vs.toArray n) ∈ news) (hi : IntsAre vs ns) (hk : k = -1) (hl : ns.getLast? = some b) (h : ∀ t, Q (.int b t) s)
    (hs : subscripted slice false (.ref a) (.int k u) = operate [.ref a, .int k u] (getItem (.ref a) (.int k u)) := by with_unfolding_all rfl) (hg : ∀ r, letTemporaryGo value (.ref a) r = pure () := by intro _; with_unfolding_all rfl) :
    wpAny (model prog w) A (subscriptTail value slice (.ref a) (.int k u)) Q E s := by
  subst hk
  have hne : ns ≠ [] := by rintro rfl; cases hl
  have hp : 0 < ns.length := List.length_pos_iff.mpr hne
  have hlen := hi.length
  have hb : ns[ns.length - 1]? = some b := by rw [← List.getLast?_eq_getElem?]; exact hl
  obtain ⟨t, hx⟩ := hi.get (ns.length - 1) b hb
  have e : (-1 + ((vs.toArray.size : Nat) : Int)).toNat = ns.length - 1 := by rw [List.size_toArray, hlen]; omega
  refine list_neg N hm (by omega) (by rw [List.size_toArray, hlen]; omega) (by omega) ?_ (h t) hs hg
  rw [e]; simpa using hx
end
theorem ne_head {D I : Addr} {o o' : Obj} {r : List (Addr × Obj)} (h : ∀ p ∈ (D, o) :: r, p.1 ≠ I) : ∀ p ∈ (D, o') :: r, p.1 ≠ I := by
  intro p hp
  rcases List.mem_cons.mp hp with rfl | hp
  · exact h (D, o) List.mem_cons_self
  · exact h p (List.mem_cons_of_mem _ hp)
/-- what a place of a list of ints holds -/
theorem ints_at {vs : List Value} {ns : List Int} {i : Nat} {v : Value} (hi : IntsAre vs ns) (h : vs.toArray[i]? = some v) : ∃ t, i < ns.length ∧ v = .int (ns.getD i 0) t := by
  have h' : vs[i]? = some v := by simpa using h
  have hl := hi.length
  have hlt : i < vs.length := (List.getElem?_eq_some_iff.mp h').1
  have hlt' : i < ns.length := by omega
  obtain ⟨t, e⟩ := hi.get i ns[i] (by simp [hlt'])
  refine ⟨t, hlt', ?_⟩
  rw [h'] at e
  rw [List.getD_eq_getElem?_getD, List.getElem?_eq_getElem hlt']
  exact Option.some.inj e
theorem take_succ_getD {ns : List Int} {i : Nat} (h : i < ns.length) : ns.take (i + 1) = ns.take i ++ [ns.getD i 0] := by
  rw [List.take_add_one, List.getElem?_eq_getElem h, List.getD_eq_getElem?_getD, List.getElem?_eq_getElem h]; rfl
end
section
set_option linter.unusedVariables false
set_option maxRecDepth 100000
open LCg in
theorem rest_inv {prog : Program} {w : World} {A : Around} {h₀ : Heap} {L : Addr} {m : PySem.Str → Option Value} {env : Env} {elt : PySem.Expr} {x : PySem.Str} {scope : Scope} {cl : List (PySem.Str × Addr)} {s : Shared} {S : List (Addr × Obj) → Prop} {P : Nat → Value → Prop} {Fin : List Value → List (Addr × Obj) → Prop}
    (n : Nat) (Inv : Nat → List Value → List (Addr × Obj) → Prop)
    (turn : ∀ i ys news v I oI C oC D m₂ h tk (E' : Value → Shared → Prop), i < n → Inv i ys news → P i v → NsObj oC m₂ → m₂ x = some v → Fr h₀ L h m → News h₀ L h ((I, oI) :: (C, oC) :: (D, lst ys) :: news) → Off3 I C D news → ((@Ne Nat I C) ∧ (@Ne Nat I D) ∧ (@Ne Nat C D)) →
      wpAny (model prog w) A (eval elt (compEnvC scope cl C env)) (CompEnd h₀ L m { s with heap := h, toks := tk } I oI C oC D (lst ys) S (fun y news' => Inv (i + 1) (ys ++ [y]) news')) E' { s with heap := h, toks := tk })
    (fin : ∀ ys news, Inv n ys news → Fin ys news) :
    ∀ (k i : Nat) (ys : List Value) (news : List (Addr × Obj)), i + k = n → Inv i ys news → CompRest prog w A h₀ L m env elt x scope cl s S P Fin k i ys news
  | 0, i, ys, news, e, hi => by
    have : i = n := by omega
    subst this
    exact CompRest.zero (fin ys news hi)
  | k + 1, i, ys, news, e, hi => by
    refine CompRest.succ fun v I oI C oC D m₂ h tk E' h1 h2 h3 h4 h5 h6 h7 => ?_
    refine wpAny_mono (turn i ys news v I oI C oC D m₂ h tk E' (by omega) hi h1 h2 h3 h4 h5 h6 h7) (fun y s₂ q => ?_) fun _ _ e => e
    obtain ⟨h', tk', news', q1, q2, q3, q4, q5, q6⟩ := q
    exact ⟨h', tk', news', q1, q2, q3, q4, q5, rest_inv n Inv turn fin k (i + 1) (ys ++ [y]) news' (by omega) q6⟩
section
variable {prog : Program} {w : World} {A : Around} {E : Value → Shared → Prop} {s : Shared} {h₀ : Heap} {L : Addr} {m : PySem.Str → Option Value} {news : List (Addr × Obj)}
theorem slice_listS {value slice : PySem.Expr} {ops : List Value} {l : Addr} {items : Array Value} {vl vu vt : Value} {lo hi st : Option Int} {Q : Value → Shared → Prop}
    (F : Fr h₀ L s.heap m) (N : News h₀ L s.heap news) (hl : s.heap.IsList l items) (pl : IsPart vl lo) (pu : IsPart vu hi) (pt : IsPart vt st) (h0 : st ≠ some 0) (hsz : items.size ≤ sizeLine)
    (h : ∀ D h', Fr h₀ L h' m → News h₀ L h' ((D, W.listOf (slicePick items lo hi st) 0) :: news) → (∀ p ∈ news, p.1 < D) → Q (.ref D) { s with heap := h' })
    (hs : subscripted slice false (.ref l) (.ref s.heap.objs.size) = operate ops (getItem (.ref l) (.ref s.heap.objs.size)) := by with_unfolding_all rfl)
    (ht : ∀ r, letTemporaryGo value (.ref l) r = pure () := by intro _; with_unfolding_all rfl) :
    wpAny (model prog w) A (subscriptTail value slice (.ref l) (.ref s.heap.objs.size)) Q E { s with heap := s.heap.push { cls := .type "slice", data := .fields #[vl, vu, vt] } } := by
  refine subscriptTail_ops (Heap.IsList.typeIs (s := { s with heap := s.heap.push { cls := .type "slice", data := .fields #[vl, vu, vt] } }) (hl.push _)) list_getitem_lookup
    (wpAny_getItem_list_slice (hl.push _) (Heap.IsSliceOf.new ..) pl pu pt h0 ?_ hsz) hs ht
  have N1 := News.push (F.push { cls := .type "slice", data := .fields #[vl, vu, vt] }) (N.grown fun _ _ e => Heap.get?_push_of_some _ e) { cls := .type "list", data := .seq (slicePick items lo hi st) }
  rw [Heap.size_push] at N1
  show Q (.ref (s.heap.push _).objs.size) _
  rw [Heap.size_push]
  exact h _ _ ((F.push _).push _) N1 fun p hp => Nat.lt_succ_of_lt (Heap.lt_size (N p hp).1)
end
theorem ints_ex : ∀ {l : List Value}, (∀ v ∈ l, ∃ i t, v = .int i t) → ∃ ms, IntsAre l ms
  | [], _ => ⟨[], .nil⟩
  | v :: r, h => by
    obtain ⟨i, t, rfl⟩ := h v (.head _)
    obtain ⟨ms, hm⟩ := ints_ex fun v hv => h v (.tail _ hv)
    exact ⟨i :: ms, .cons _ _ hm⟩
theorem ints_snoc : ∀ {vs : List Value} {ns : List Int} {i : Int} {t : Tok}, IntsAre vs ns → IntsAre (vs ++ [.int i t]) (ns ++ [i]) := by
  intro vs ns i t h
  induction h with
  | nil => exact .cons i t .nil
  | cons j u _ ih => exact .cons j u ih
theorem off1_mem {D : Addr} : ∀ {l : List (Addr × Obj)}, LCg.Off1 D l → ∀ p ∈ l, @Ne Nat p.1 D
  | [], _, _, h => nomatch h
  | q :: l, x, p, h => by
    rcases List.mem_cons.mp h with rfl | h
    · exact x.1
    · exact off1_mem x.2 p h
theorem ints_mem : ∀ {vs : List Value} {ns : List Int}, IntsAre vs ns → ∀ v ∈ vs, ∃ i t, v = .int i t := by
  intro vs ns k
  induction k with
  | nil => intro v h; cases h
  | cons i t _ ih =>
    intro v h
    rcases List.mem_cons.mp h with rfl | h
    · exact ⟨i, t, rfl⟩
    · exact ih v h
theorem slice_ints {vs : List Value} {ns : List Int} {lo hi st : Option Int} (h : IntsAre vs ns) : ∃ ms, IntsAre (slicePick vs.toArray lo hi st).toList ms := by
  refine ints_ex fun v hv => ints_mem h v ?_
  unfold slicePick at hv
  simp only [List.mem_filterMap] at hv
  obtain ⟨i, _, e⟩ := hv
  have e' : vs[i]? = some v := by simpa using e
  exact List.mem_of_getElem? e'
theorem slice_intsS {prog : Program} {w : World} {A : Around} {E : Value → Shared → Prop} {s : Shared} {h₀ : Heap} {L : Addr} {m : PySem.Str → Option Value} {news : List (Addr × Obj)} {value slice : PySem.Expr} {ops : List Value} {l : Addr} {vs : List Value} {ns : List Int} {vl vu vt : Value} {lo hi st : Option Int} {Q : Value → Shared → Prop}
    (F : Fr h₀ L s.heap m) (N : News h₀ L s.heap news) (hl : s.heap.IsList l vs.toArray) (hi' : IntsAre vs ns) (pl : IsPart vl lo) (pu : IsPart vu hi) (pt : IsPart vt st) (h0 : st ≠ some 0) (hsz : ns.length ≤ 1000)
    (h : ∀ D ws ms h', Fr h₀ L h' m → News h₀ L h' ((D, W.listOf (List.toArray ws) 0) :: news) → (∀ p ∈ news, p.1 < D) → IntsAre ws ms → ms.length ≤ ns.length → ws = (slicePick vs.toArray lo hi st).toList → Q (.ref D) { s with heap := h' })
    (hs : subscripted slice false (.ref l) (.ref s.heap.objs.size) = operate ops (getItem (.ref l) (.ref s.heap.objs.size)) := by with_unfolding_all rfl)
    (ht : ∀ r, letTemporaryGo value (.ref l) r = pure () := by intro _; with_unfolding_all rfl) :
    wpAny (model prog w) A (subscriptTail value slice (.ref l) (.ref s.heap.objs.size)) Q E { s with heap := s.heap.push { cls := .type "slice", data := .fields #[vl, vu, vt] } } := by
  have hl' := hi'.length
  refine slice_listS F N hl pl pu pt h0 (by rw [List.size_toArray, sizeLine_eq]; omega) (fun D h' F' N' l1 => ?_) hs ht
  obtain ⟨ms, hm⟩ := slice_ints (lo := lo) (hi := hi) (st := st) hi'
  refine h D (slicePick vs.toArray lo hi st).toList ms h' F' ?_ l1 hm ?_ rfl
  · rw [Array.toArray_toList]; exact N'
  · have q := slicePick_size_le vs.toArray lo hi st

    have q2 : (slicePick vs.toArray lo hi st).toList.length = (slicePick vs.toArray lo hi st).size := Array.length_toList
    have q3 : vs.toArray.size = vs.length := List.size_toArray
    have q4 := hm.length
    omega
end
section
set_option linter.unusedVariables false
set_option maxRecDepth 100000
open LCg LCt
section
variable {prog : Program} {w : World} {A : Around} {E : Value → Shared → Prop} {s : Shared} {h₀ : Heap} {L : Addr} {m : PySem.Str → Option Value} {env : Env}
noncomputable def CompSrcS (prog : Program) (w : World) (A : Around) (h₀ : Heap) (L : Addr) (m : PySem.Str → Option Value) (env : Env) (ct elt : PySem.Expr) (x : PySem.Str) (scope : Scope) (cl : List (PySem.Str × Addr)) (Fin : Shared → List Value → List (Addr × Obj) → Prop) (xv : Value) (s₁ : Shared) : Prop :=
  ∃ xs t news, xv = .str xs t ∧ A.handled = none ∧ Fr h₀ L s₁.heap m ∧ News h₀ L s₁.heap news ∧ xs.cps.size ≤ sizeLine ∧
    ∀ s₂ : Shared, (∃ h, s₂ = { s₁ with heap := h }) → CompRestT prog w A h₀ L m env ct elt x scope cl s₂ (fun _ => True) (SignAt xs) (Fin s₂) xs.cps.size 0 [] news
theorem ListComp_TS {ct elt iter : PySem.Expr} {x : PySem.Str} {px : Pos} {scope : Scope} {cl : List (PySem.Str × Addr)} {pos : Pos} {Q : Value → Shared → Prop} (F₀ : Fr h₀ L s.heap m)
    (hclos : closureFor scope env = pure cl) (hcell : ∀ y ∈ scope.names, y.2 ≠ .cell) (hkind : scope.kind = .function)
    (hnames : ∀ y ∈ scope.names, y.2 = .local → scope.names.lookup y.1 = some .local) (hx : scope.names.lookup x = some .local)
    (h : wpAny (model prog w) A (eval iter env) (CompSrcS prog w A h₀ L m env ct elt x scope cl (fun s₂ => FinE h₀ L m s₂ Q)) E s)
    (hs : ∀ x, foldedSetIterable iter env x = pure x := by intro _; rfl) :
    wpAny (model prog w) A (eval (.ListComp elt [⟨.Name x px, iter, [ct], 0⟩] scope pos) env) Q E s := by
  rw [eval_ListComp]
  refine wpAny_comprehension_free (use := none) rfl hs hclos hkind hnames (wpAny_mono h (fun xv s₁ h₁ => ?_) fun _ _ e => e)
  obtain ⟨xs, t, news, rfl, hh, F, N, hsz, R⟩ := h₁
  cases ha : xs.cps.all (· < 128)
  · refine wpAny_pyIter_wide ha ?_
    refine block_T (Walks.strWide hh s₁.heap.objs.size xs t) hsz (fun i h st => by obtain ⟨o, e, _⟩ := st; exact ⟨o, e⟩) (fun i h h' o nw st e e' _ _ _ => by obtain ⟨o', q, r⟩ := st; rw [e] at q; cases q; exact ⟨o, e', r⟩) hcell hkind hx ⟨_, Heap.get?_push_size _ rfl, rfl, rfl⟩ (fun b hb => ?_)
      (F.keeps fun _ _ e => Heap.get?_push_of_some _ e) (N.grown fun _ _ e => Heap.get?_push_of_some _ e) (Nat.ne_of_lt F.ns.lt) (next_is_new F) (fun p hp => Nat.ne_of_lt (Heap.lt_size (N p hp).1)) trivial (R _ ⟨_, rfl⟩) ?_
    · rw [List.mem_singleton.mp hb]
      show s₁.heap.objs.size < (s₁.heap.push _).objs.size
      rw [Heap.size_push]; exact Nat.lt_succ_self _
    · intro D C h tk m' ys news' F' N' o1 hn hC₀ hD₀ hCL hDL hCD offC fin
      refine ⟨m', hn, fun h'' hs'' => fin D h'' tk (F'.change hs'' hCL hC₀) (fun p hp => ?_) o1⟩
      refine ⟨hs''.extBut _ _ ?_ (N' p hp).1, (N' p hp).2⟩
      rcases List.mem_cons.mp hp with rfl | hp
      · exact Ne.symm hCD
      · exact offC p hp
  · refine wpAny_pyIter_ascii ha ?_
    refine block_T (Walks.strAscii hh s₁.heap.objs.size xs t) hsz (fun i h st => by obtain ⟨o, e, _⟩ := st; exact ⟨o, e⟩) (fun i h h' o nw st e e' _ _ _ => by obtain ⟨o', q, r⟩ := st; rw [e] at q; cases q; exact ⟨o, e', r⟩) hcell hkind hx ⟨_, Heap.get?_push_size _ rfl, rfl, rfl⟩ (fun b hb => ?_)
      (F.keeps fun _ _ e => Heap.get?_push_of_some _ e) (N.grown fun _ _ e => Heap.get?_push_of_some _ e) (Nat.ne_of_lt F.ns.lt) (next_is_new F) (fun p hp => Nat.ne_of_lt (Heap.lt_size (N p hp).1)) trivial (R _ ⟨_, rfl⟩) ?_
    · rw [List.mem_singleton.mp hb]
      show s₁.heap.objs.size < (s₁.heap.push _).objs.size
      rw [Heap.size_push]; exact Nat.lt_succ_self _
    · intro D C h tk m' ys news' F' N' o1 hn hC₀ hD₀ hCL hDL hCD offC fin
      refine ⟨m', hn, fun h'' hs'' => fin D h'' tk (F'.change hs'' hCL hC₀) (fun p hp => ?_) o1⟩
      refine ⟨hs''.extBut _ _ ?_ (N' p hp).1, (N' p hp).2⟩
      rcases List.mem_cons.mp hp with rfl | hp
      · exact Ne.symm hCD
      · exact offC p hp
end
theorem restT_inv {prog : Program} {w : World} {A : Around} {h₀ : Heap} {L : Addr} {m : PySem.Str → Option Value} {env : Env} {ct elt : PySem.Expr} {x : PySem.Str} {scope : Scope} {cl : List (PySem.Str × Addr)} {s : Shared} {S : List (Addr × Obj) → Prop} {P : Nat → Value → Prop} {Fin : List Value → List (Addr × Obj) → Prop}
    (n : Nat) (Inv : Nat → List Value → List (Addr × Obj) → Prop)
    (turn : ∀ i ys news v I oI C oC D m₂ h tk (E' : Value → Shared → Prop), i < n → Inv i ys news → P i v → NsObj oC m₂ → m₂ x = some v → Fr h₀ L h m → News h₀ L h ((I, oI) :: (C, oC) :: (D, lst ys) :: news) → Off3 I C D news → ((@Ne Nat I C) ∧ (@Ne Nat I D) ∧ (@Ne Nat C D)) →
      wpAny (model prog w) A (isTrue ct (compEnvC scope cl C env) (eval ct (compEnvC scope cl C env))) (fun ok s' => if ok = true then
        wpAny (model prog w) A (eval elt (compEnvC scope cl C env)) (CompEnd h₀ L m { s with heap := h, toks := tk } I oI C oC D (lst ys) S (fun y news' => Inv (i + 1) (ys ++ [y]) news')) E' s'
        else CompEnd h₀ L m { s with heap := h, toks := tk } I oI C oC D (lst ys) S (fun _ news' => Inv (i + 1) ys news') Value.none s') E' { s with heap := h, toks := tk })
    (fin : ∀ ys news, Inv n ys news → Fin ys news) :
    ∀ (k i : Nat) (ys : List Value) (news : List (Addr × Obj)), i + k = n → Inv i ys news → CompRestT prog w A h₀ L m env ct elt x scope cl s S P Fin k i ys news
  | 0, i, ys, news, e, hi => by
    have : i = n := by omega
    subst this
    exact CompRestT.zero (fin ys news hi)
  | k + 1, i, ys, news, e, hi => by
    refine CompRestT.succ fun v I oI C oC D m₂ h tk E' h1 h2 h3 h4 h5 h6 h7 => ?_
    have end_ : ∀ {y : Value} {s₂ : Shared} {ys' : Value → List Value}, CompEnd h₀ L m { s with heap := h, toks := tk } I oI C oC D (lst ys) S (fun y news' => Inv (i + 1) (ys' y) news') y s₂ → CompEnd h₀ L m { s with heap := h, toks := tk } I oI C oC D (lst ys) S (fun y news' => CompRestT prog w A h₀ L m env ct elt x scope cl s S P Fin k (i + 1) (ys' y) news') y s₂ := by
      rintro y s₂ ys' ⟨h', tk', news', q1, q2, q3, q4, q5, q6⟩
      exact ⟨h', tk', news', q1, q2, q3, q4, q5, restT_inv n Inv turn fin k (i + 1) (ys' y) news' (by omega) q6⟩
    refine wpAny_mono (turn i ys news v I oI C oC D m₂ h tk E' (by omega) hi h1 h2 h3 h4 h5 h6 h7) (fun ok s' q => ?_) fun _ _ e => e
    cases ok
    · rw [if_neg (by decide)] at q ⊢
      exact end_ (ys' := fun _ => ys) q
    · rw [if_pos rfl] at q ⊢
      exact wpAny_mono q (fun y s₂ q => end_ (ys' := fun y => ys ++ [y]) q) fun _ _ e => e
section
variable {prog : Program} {w : World} {A : Around} {E : Value → Shared → Prop} {s : Shared} {h₀ : Heap} {L a b : Addr} {news : List (Addr × Obj)} {xs ys : List Value} {ns ms : List Int} {n1 n2 : Nat} {Q : Value → Shared → Prop}
theorem ne_ints_led (N : News h₀ L s.heap news) (ha : (a, W.listOf xs.toArray n1) ∈ news) (hb : (b, W.listOf ys.toArray n2) ∈ news) (hi : IntsAre xs ns) (hj : IntsAre ys ms) (hu : A.units + 64 < cLine) (h : Q (.bool (!decide (ns = ms))) s) : wpAny (model prog w) A (compareOp .NotEq (.ref a) (.ref b)) Q E s :=
  ke_ne_ints (N.isList ha) (N.isList hb) hi hj hu h
theorem eq_ints_led (N : News h₀ L s.heap news) (ha : (a, W.listOf xs.toArray n1) ∈ news) (hb : (b, W.listOf ys.toArray n2) ∈ news) (hi : IntsAre xs ns) (hj : IntsAre ys ms) (hu : A.units + 64 < cLine) (h : Q (.bool (decide (ns = ms))) s) : wpAny (model prog w) A (compareOp .Eq (.ref a) (.ref b)) Q E s :=
  ke_eq_ints (N.isList ha) (N.isList hb) hi hj hu h
theorem ne_ints_nil (N : News h₀ L s.heap news) (ha : (a, W.listOf xs.toArray n1) ∈ news) (hb : (b, W.listOf #[] n2) ∈ news) (hi : IntsAre xs ns) (hu : A.units + 64 < cLine) (h : Q (.bool (!decide (ns = []))) s) : wpAny (model prog w) A (compareOp .NotEq (.ref a) (.ref b)) Q E s :=
  ke_ne_ints (xs := xs) (ys := []) (N.isList ha) (N.isList hb) hi .nil hu h
end
end
section
set_option linter.unusedVariables false
set_option maxRecDepth 100000
open LCg LCt
section
variable {prog : Program} {w : World} {A : Around} {E : Value → Shared → Prop} {s : Shared} {h₀ : Heap} {L : Addr} {m : PySem.Str → Option Value} {env : Env}
noncomputable def CompSrcTu (prog : Program) (w : World) (A : Around) (h₀ : Heap) (L : Addr) (m : PySem.Str → Option Value) (env : Env) (ct elt : PySem.Expr) (x : PySem.Str) (scope : Scope) (cl : List (PySem.Str × Addr)) (Fin : Shared → List Value → List (Addr × Obj) → Prop) (xv : Value) (s₁ : Shared) : Prop :=
  ∃ ax its news, xv = .ref ax ∧ A.handled = none ∧ Fr h₀ L s₁.heap m ∧ News h₀ L s₁.heap news ∧ (ax, ({ cls := .type "tuple", data := .seq its } : Obj)) ∈ news ∧ its.size ≤ sizeLine ∧
    ∀ s₂ : Shared, (∃ h, s₂ = { s₁ with heap := h }) → CompRestT prog w A h₀ L m env ct elt x scope cl s₂ (fun nw => (ax, ({ cls := .type "tuple", data := .seq its } : Obj)) ∈ nw) (fun i v => its[i]? = some v) (Fin s₂) its.size 0 [] news
theorem ListComp_TT {ct elt iter : PySem.Expr} {x : PySem.Str} {px : Pos} {scope : Scope} {cl : List (PySem.Str × Addr)} {pos : Pos} {Q : Value → Shared → Prop} (F₀ : Fr h₀ L s.heap m)
    (hclos : closureFor scope env = pure cl) (hcell : ∀ y ∈ scope.names, y.2 ≠ .cell) (hkind : scope.kind = .function)
    (hnames : ∀ y ∈ scope.names, y.2 = .local → scope.names.lookup y.1 = some .local) (hx : scope.names.lookup x = some .local)
    (h : wpAny (model prog w) A (eval iter env) (CompSrcTu prog w A h₀ L m env ct elt x scope cl (fun s₂ => FinE h₀ L m s₂ Q)) E s)
    (hs : ∀ x, foldedSetIterable iter env x = pure x := by intro _; rfl) :
    wpAny (model prog w) A (eval (.ListComp elt [⟨.Name x px, iter, [ct], 0⟩] scope pos) env) Q E s := by
  rw [eval_ListComp]
  refine wpAny_comprehension_free (use := none) rfl hs hclos hkind hnames (wpAny_mono h (fun xv s₁ h₁ => ?_) fun _ _ e => e)
  obtain ⟨ax, its, news, rfl, hh, F, N, hmem, hsz, R⟩ := h₁
  have tup : ∀ {h : Heap} {nw : List (Addr × Obj)}, News h₀ L h nw → (ax, ({ cls := .type "tuple", data := .seq its } : Obj)) ∈ nw → h.IsTuple ax its := fun N hm => ⟨_, (N _ hm).1, rfl, _, rfl⟩
  have hlt : ax < s₁.heap.objs.size := Heap.lt_size (N _ hmem).1
  have up : ∀ b o, s₁.heap.get? b = some o → (s₁.heap.push { cls := .type "tuple_iterator", data := .fields #[.ref ax, .int 0 0] }).get? b = some o := fun b o e => Heap.get?_push_of_some _ e
  refine wpAny_pyIter_tuple (tup N hmem) ?_
  refine block_T (Walks.tuple hh s₁.heap.objs.size ax (Nat.ne_of_lt hlt) its) hsz (fun i h st => by obtain ⟨o, e, _⟩ := st.1; exact ⟨o, e⟩) (fun i h h' o nw st e e' k N S => ⟨by obtain ⟨o', q, r⟩ := st.1; rw [e] at q; cases q; exact ⟨o, e', r⟩, tup N S⟩) hcell hkind hx ⟨⟨_, Heap.get?_push_size _ rfl, rfl, rfl⟩, tup (N.grown up) hmem⟩ (fun b hb => ?_)
    (F.keeps up) (N.grown up) (Nat.ne_of_lt F.ns.lt) (next_is_new F) (fun p hp => Nat.ne_of_lt (Heap.lt_size (N p hp).1)) hmem (R _ ⟨_, rfl⟩) ?_
  · show b < (s₁.heap.push _).objs.size
    rw [Heap.size_push]
    rcases List.mem_cons.mp hb with rfl | hb
    · exact Nat.lt_succ_self _
    · rw [List.mem_singleton.mp hb]; exact Nat.lt_succ_of_lt hlt
  · intro D C h tk m' ys news' F' N' o1 hn hC₀ hD₀ hCL hDL hCD offC fin
    refine ⟨m', hn, fun h'' hs'' => fin D h'' tk (F'.change hs'' hCL hC₀) (fun p hp => ?_) o1⟩
    refine ⟨hs''.extBut _ _ ?_ (N' p hp).1, (N' p hp).2⟩
    rcases List.mem_cons.mp hp with rfl | hp
    · exact Ne.symm hCD
    · exact offC p hp
end
end
local macro_rules | `(tactic| walk_at "mine.1") => `(tactic| (k_here; refine halt ?_))
section
set_option linter.unusedVariables false
set_option maxRecDepth 100000
set_option maxHeartbeats 4000000
noncomputable def Mark (_ : Nat) : Prop := True
theorem gen_toks_Cnt {M : Model} {A : Around} {α : Type} {t : Sem α} {Q : α → Shared → Prop} {E : Value → Shared → Prop} {hp : Heap} {g : Array GenState} {d : Drawn} {a b ty : Nat} {os : OsState} (hm : Mark ty) (h0 : ty < a + b) (h : ∀ tk, ty < tk → wpAny M A t Q E ⟨hp, g, d, tk, os⟩) : wpAny M A t Q E ⟨hp, g, d, a + b, os⟩ := h _ h0
local macro_rules | `(tactic| walk_at "mine.2") => `(tactic| (k_here; (try dsimp only); (with_reducible refine gen_toks_Cnt (by assumption) (by omega) ?_); intro tk htk))
local macro_rules | `(tactic| walk_at "execs cons") => `(tactic| walk_at "mine.2")
local macro_rules | `(tactic| walk_at "execs nil") => `(tactic| walk_at "mine.2")

theorem none_booked {w : World} {h₀ h : Heap} {L : Addr} {m : PySem.Str → Option Value} (F : Fr h₀ L h m) (X : (K w.params).In h₀) : NoneBooked h := by
  have ho : h.get? 2 = some (o2 w.params) := (X.keeps F.keep) 2 _ rfl
  exact ⟨fun _ => none, ⟨_, #[], 0, ho, rfl, fun e h => absurd h (by simp), fun _ => rfl⟩, rfl⟩
noncomputable def semis (x : PySem.Str) (i : Nat) : Int := (((x.cps.toList.take i).count 59 : Nat) : Int)
theorem semis_next {x : PySem.Str} {i c : Nat} (h : x.cps[i]? = some c) : semis x (i + 1) = if c = 59 then semis x i + 1 else semis x i := by
  unfold semis
  have h' : x.cps.toList[i]? = some c := by simpa using h
  rw [List.take_add_one, h', List.count_append]
  by_cases e : c = 59
  · subst e; simp
  · simp [e, List.count_cons]
section
variable {prog : Program} {w : World} {A : Around} {E : Value → Shared → Prop} {s : Shared} {Q : Value → Shared → Prop} {c : Nat} {u v : Nat} {h₀ : Heap} {L : Addr} {m : PySem.Str → Option Value}
theorem is_ne (hc : c ≠ 59) (hu : v < u) (hv : 0 < v) (h : Q (.bool false) s) : wpAny (model prog w) A (compareOp .Is (.str ⟨#[c]⟩ u) (.str (.ofString ";") v)) Q E s := by
  show wpAny _ _ (do return .bool (← isSame (.str ⟨#[c]⟩ u) (.str (.ofString ";") v))) Q E s
  have e : ((⟨#[c]⟩ : PySem.Str) == PySem.Str.ofString ";") = false := by
    rw [beq_eq_false_iff_ne]
    intro q
    have q' : (⟨#[c]⟩ : PySem.Str) = ⟨#[59]⟩ := q.trans (by decide +kernel)
    simp at q'
    exact hc q'
  refine wpAny_bind (wpAny_of_eq (isSame_str_other _ _ u v ?_ ?_ e) ?_)
  · have h1 : ¬u = 0 := by omega
    have h2 : ¬v = 0 := by omega
    simp [h1, h2]
  · have h3 : u ≠ v := by omega
    simpa using h3
  · exact wpAny_pure h
theorem is_eq (F : Fr h₀ L s.heap m) (X : (K w.params).In h₀) (hu : v < u) (hv : 0 < v) (h : ∀ b, Q (.bool b) s) : wpAny (model prog w) A (compareOp .Is (.str ⟨#[59]⟩ u) (.str (.ofString ";") v)) Q E s := by
  show wpAny _ _ (do return .bool (← isSame (.str ⟨#[59]⟩ u) (.str (.ofString ";") v))) Q E s
  refine wpAny_bind (wpAny_isSame_str ?_ (none_booked F X) fun b => wpAny_pure (h b))
  have h1 : ¬u = 0 := by omega
  have h2 : ¬v = 0 := by omega
  simp [h1, h2]
theorem is_sg (F : Fr h₀ L s.heap m) (X : (K w.params).In h₀) (hu : v < u) (hv : 0 < v) (h1 : ∀ b, c = 59 → Q (.bool b) s) (h2 : c ≠ 59 → Q (.bool false) s) : wpAny (model prog w) A (compareOp .Is (.str ⟨#[c]⟩ u) (.str (.ofString ";") v)) Q E s := by
  by_cases e : c = 59
  · subst e; exact is_eq F X hu hv fun b => h1 b rfl
  · exact is_ne e hu hv (h2 e)
theorem eq_ne (hc : c ≠ 59) (h : Q (.bool false) s) : wpAny (model prog w) A (compareOp .Eq (.str ⟨#[c]⟩ u) (.str (.ofString ";") v)) Q E s := by
  have e : ((⟨#[c]⟩ : PySem.Str) == PySem.Str.ofString ";") = false := by
    rw [beq_eq_false_iff_ne]
    intro q
    have q' : (⟨#[c]⟩ : PySem.Str) = ⟨#[59]⟩ := q.trans (by decide +kernel)
    simp at q'
    exact hc q'
  refine eq_str ?_
  rw [e]; exact h
theorem eq_eq (hc : c = 59) (h : Q (.bool true) s) : wpAny (model prog w) A (compareOp .Eq (.str ⟨#[c]⟩ u) (.str (.ofString ";") v)) Q E s := by
  subst hc
  refine eq_str ?_
  rw [show ((⟨#[59]⟩ : PySem.Str) == PySem.Str.ofString ";") = true from by decide +kernel]; exact h
end
local macro_rules | `(tactic| walk_at "exec For Name Name cons nil") => `(tactic| walk_at "mine.1")
local macro_rules | `(tactic| walk_at "TurnT") => `(tactic| walk_at "mine.1")
theorem con_countOf {w : World} {p : Program} {loose : List PySem.Str} {mean : ExcName → Option Value} {mg mb : PySem.Str → Option Value} (dp un : Nat) (gd : Option (List Code)) (cn : PySem.Str) (cs : Scope) (a : Addr) (ccd : Value) (cl : List (PySem.Str × Addr)) (outer : List Env) (A₀ : Around) (base h₀ : Heap) (L : Addr) (m : PySem.Str → Option Value) (news : List (Addr × Obj)) (s : Shared) (x : PySem.Str) (tx : Tok) (ty : Nat)
    (Q E : Value → Shared → Prop) (B : Below A₀ base outer h₀) (F : Fr h₀ L s.heap m) (X : (K w.params).In h₀) (N : News h₀ L s.heap news) (T : Top p loose mean mg mb h₀) (hk : cs.kind = .function) (hd : dp + 8 < recursionLimit) (hu : un + 64 < cLine) (hm : Mark ty) (h1 : 0 < ty) (h2 : ty < s.toks)
    (hret : ∀ t h' tk', Fr h₀ L h' m → News h₀ L h' news → Q (.int (semis x x.cps.size) t) { s with heap := h', toks := tk' }) :
    wpAny (model pw w) (ktrTop dp un gd cn cs L a ccd cl outer) (call (.ref 101) [.str x tx, .str (.ofString ";") ty]) Q E s := by
  
  refine wpAny_call ?_
  k_dflt (refine' code_defL ?k1 ?k2 ?k3 ?k4 ?k5 ?kA ?kF ?kK ?k6 ?kp ?kb ?ks ?k7 ?k8 ?k9 ?kB ?_ ?c2 ?c3 ?c4 ?c5; (case kA => exact rfl); (case kF => exact rfl); (case kK => assumption); (case k1 => k_asm); (case k2 => k_asm); (case k3 => k_asm); (case k4 => k_asm); (case k5 => k_asm); (case k6 => k_is); (case kp => conv => lhs; whnf); (case kb => conv => lhs; whnf); (case ks => conv => lhs; whnf); (case k7 => k_is); (case k8 => ktr_room); (case k9 => exact BindsTo.of_eq rfl); (case c5 => decide); (case kB => exact locs rfl); (case c2 => exact rfl); (case c3 => exact rfl); (case c4 => exact rfl); k_whole; intro gq9 Lq9 hq9 FGq9 Fq9 Nq9 Bq9 Xq9 Tq9; (try dsimp only); (try k_fold))
  (repeat' (first | (k_unfold; (try dsimp only)) | (k_end; wrow_close) | ((with_reducible show wpAny _ _ (compareOp CmpOp.Eq (Value.str _ _) (Value.str _ _)) _ _ _); first | (refine eq_ne (by assumption) ?_) | (refine eq_eq (by assumption) ?_)) | ((with_reducible show wpAny _ _ (compareOp CmpOp.Is (Value.str _ _) (Value.str _ _)) _ _ _); k_dflt (refine is_sg (by k_asm) (by k_asm) (by omega) (by assumption) ?h1 ?h2); (case' h1 => intro bq9 hcq9; cases bq9); (case' h2 => intro hcq9)) | walk1 | (dsimp only; walk1) | (leave1; (try dsimp only)) | fail))
  unfold Halt
  rename Fr _ _ _ _ => F1
  rename News _ _ _ _ => N1
  refine' For_str (σ := Int × Tok) (xs := x) (t := tx) F1 ?hh (by rfl) (by rfl) (fun h => ?hv) (fun a => [(.ofString "count", .int a.1 a.2)]) (fun _ => _) (fun i a tk => a.1 = semis x i ∧ ty < tk) (0, _) ?hm N1 ?k0 ?step ?done
  case hh => with_unfolding_all exact rfl
  case hm => intro p hp; rw [List.mem_singleton.mp hp]; rfl
  case hv => k_dflt (exact ld F1 (by rfl) h)
  case k0 => exact ⟨rfl, by assumption⟩
  case step =>
    intro i c a h u oI I hc hi F2 hne N2
    obtain ⟨hi, hu⟩ := hi
    have hn := semis_next hc
    (repeat' (first | (k_unfold; (try dsimp only)) | (k_end; wrow_close) | ((with_reducible show wpAny _ _ (compareOp CmpOp.Eq (Value.str _ _) (Value.str _ _)) _ _ _); first | (refine eq_ne (by assumption) ?_) | (refine eq_eq (by assumption) ?_)) | ((with_reducible show wpAny _ _ (compareOp CmpOp.Is (Value.str _ _) (Value.str _ _)) _ _ _); k_dflt (refine is_sg (by k_asm) (by k_asm) (by omega) (by assumption) ?h1 ?h2); (case' h1 => intro bq9 hcq9; cases bq9); (case' h2 => intro hcq9)) | walk1 | (dsimp only; walk1) | (leave1; (try dsimp only)) | fail))
    all_goals unfold Halt
    all_goals refine turn_end (.inl rfl) (_, _) (by assumption) (by assumption) hne (map1 (by rfl) ?_) ⟨?_, by assumption⟩
    all_goals first | (dsimp only; simp only [hn]; rw [hi]; first | rw [if_pos (by assumption)] | rw [if_neg (by assumption)]) | (intro y h1 h2; simp only [ovr, List.lookup_cons, List.lookup_nil, if_neg h1, if_neg h2, beq_eq_false_iff_ne.mpr h2])
  case done =>
    intro h' tk a u hi F2 N2
    obtain ⟨hi, hu⟩ := hi
    (repeat' (first | (k_unfold; (try dsimp only)) | (k_end; wrow_close) | ((with_reducible show wpAny _ _ (compareOp CmpOp.Eq (Value.str _ _) (Value.str _ _)) _ _ _); first | (refine eq_ne (by assumption) ?_) | (refine eq_eq (by assumption) ?_)) | ((with_reducible show wpAny _ _ (compareOp CmpOp.Is (Value.str _ _) (Value.str _ _)) _ _ _); k_dflt (refine is_sg (by k_asm) (by k_asm) (by omega) (by assumption) ?h1 ?h2); (case' h1 => intro bq9 hcq9; cases bq9); (case' h2 => intro hcq9)) | walk1 | (dsimp only; walk1) | (leave1; (try dsimp only)) | fail))
    rw [hi]
    exact hret _ _ _ (by k_asm) (by k_asm)
end
section
set_option linter.unusedVariables false
set_option maxRecDepth 100000
set_option maxHeartbeats 4000000
theorem con_floordiv {w : World} {p : Program} {loose : List PySem.Str} {mean : ExcName → Option Value} {mg mb : PySem.Str → Option Value} (dp un : Nat) (gd : Option (List Code)) (cn : PySem.Str) (cs : Scope) (a : Addr) (ccd : Value) (cl : List (PySem.Str × Addr)) (outer : List Env) (A₀ : Around) (base h₀ : Heap) (L : Addr) (m : PySem.Str → Option Value) (news : List (Addr × Obj)) (s : Shared) (x : Int) (tx ty : Tok)
    (Q E : Value → Shared → Prop) (B : Below A₀ base outer h₀) (F : Fr h₀ L s.heap m) (X : (K w.params).In h₀) (N : News h₀ L s.heap news) (T : Top p loose mean mg mb h₀) (hk : cs.kind = .function) (hd : dp + 8 < recursionLimit) (hu : un + 64 < cLine) 
    (hret : ∀ t h' tk', Fr h₀ L h' m → News h₀ L h' news → Q (.int (x.fdiv 4) t) { s with heap := h', toks := tk' }) :
    wpAny (model pw w) (ktrTop dp un gd cn cs L a ccd cl outer) (call (.ref 108) [.int x tx, .int 4 ty]) Q E s := by
  
  refine wpAny_call ?_
  k_dflt (refine' code_defL ?k1 ?k2 ?k3 ?k4 ?k5 ?kA ?kF ?kK ?k6 ?kp ?kb ?ks ?k7 ?k8 ?k9 ?kB ?_ ?c2 ?c3 ?c4 ?c5; (case kA => exact rfl); (case kF => exact rfl); (case kK => assumption); (case k1 => k_asm); (case k2 => k_asm); (case k3 => k_asm); (case k4 => k_asm); (case k5 => k_asm); (case k6 => k_is); (case kp => conv => lhs; whnf); (case kb => conv => lhs; whnf); (case ks => conv => lhs; whnf); (case k7 => k_is); (case k8 => ktr_room); (case k9 => exact BindsTo.of_eq rfl); (case c5 => decide); (case kB => exact locs rfl); (case c2 => exact rfl); (case c3 => exact rfl); (case c4 => exact rfl); k_whole; intro gq9 Lq9 hq9 FGq9 Fq9 Nq9 Bq9 Xq9 Tq9; (try dsimp only); (try k_fold))
  k_steps
  all_goals exact hret _ _ _ (by k_asm) (by k_asm)
theorem con_isub {w : World} {p : Program} {loose : List PySem.Str} {mean : ExcName → Option Value} {mg mb : PySem.Str → Option Value} (dp un : Nat) (gd : Option (List Code)) (cn : PySem.Str) (cs : Scope) (a : Addr) (ccd : Value) (cl : List (PySem.Str × Addr)) (outer : List Env) (A₀ : Around) (base h₀ : Heap) (L : Addr) (m : PySem.Str → Option Value) (news : List (Addr × Obj)) (s : Shared) (x y : Int) (tx ty : Tok)
    (Q E : Value → Shared → Prop) (B : Below A₀ base outer h₀) (F : Fr h₀ L s.heap m) (X : (K w.params).In h₀) (N : News h₀ L s.heap news) (T : Top p loose mean mg mb h₀) (hk : cs.kind = .function) (hd : dp + 8 < recursionLimit) (hu : un + 64 < cLine) 
    (hret : ∀ t h' tk', Fr h₀ L h' m → News h₀ L h' news → Q (.int (x - y) t) { s with heap := h', toks := tk' }) :
    wpAny (model pw w) (ktrTop dp un gd cn cs L a ccd cl outer) (call (.ref 115) [.int x tx, .int y ty]) Q E s := by
  
  refine wpAny_call ?_
  k_dflt (refine' code_defL ?k1 ?k2 ?k3 ?k4 ?k5 ?kA ?kF ?kK ?k6 ?kp ?kb ?ks ?k7 ?k8 ?k9 ?kB ?_ ?c2 ?c3 ?c4 ?c5; (case kA => exact rfl); (case kF => exact rfl); (case kK => assumption); (case k1 => k_asm); (case k2 => k_asm); (case k3 => k_asm); (case k4 => k_asm); (case k5 => k_asm); (case k6 => k_is); (case kp => conv => lhs; whnf); (case kb => conv => lhs; whnf); (case ks => conv => lhs; whnf); (case k7 => k_is); (case k8 => ktr_room); (case k9 => exact BindsTo.of_eq rfl); (case c5 => decide); (case kB => exact locs rfl); (case c2 => exact rfl); (case c3 => exact rfl); (case c4 => exact rfl); k_whole; intro gq9 Lq9 hq9 FGq9 Fq9 Nq9 Bq9 Xq9 Tq9; (try dsimp only); (try k_fold))
  k_steps
  all_goals exact hret _ _ _ (by k_asm) (by k_asm)
end
section
set_option linter.unusedVariables false
set_option maxRecDepth 100000
set_option maxHeartbeats 4000000

noncomputable def alph : List Int := [0, 1, 2, 4, 7, 8, 9, 10, 11, 12]
noncomputable def letterCode (x : Int) : Nat := if x = 0 then 107 else if x = 1 then 8490 else (119818 + 52 * alph.getD (x - 2).toNat 0).toNat
theorem alph_b (n : Nat) : 0 ≤ alph.getD n 0 ∧ alph.getD n 0 ≤ 12 := by
  rcases Nat.lt_or_ge n 10 with h | h
  · have : ∀ n, n < 10 → 0 ≤ alph.getD n 0 ∧ alph.getD n 0 ≤ 12 := by decide
    exact this n h
  · have e : alph[n]? = none := List.getElem?_eq_none h
    rw [List.getD_eq_getElem?_getD, e]; decide
theorem chr_alph {prog : Program} {w : World} {A : Around} {E : Value → Shared → Prop} {s : Shared} {n : Nat} {t : Tok} {Q : Value → Shared → Prop} (h : Q (.str ⟨#[(119818 + 52 * alph.getD n 0).toNat]⟩ s.toks) { s with toks := s.toks + 1 }) :
    wpAny (model prog w) A (call (.builtin "chr") [.int (119818 + 52 * [0, 1, 2, 4, 7, 8, 9, 10, 11, 12].getD n 0) t]) Q E s :=
  have hb := alph_b n
  chr_of_range (by have := hb.1; unfold alph at this; omega) (by have := hb.2; unfold alph at this; omega) h
noncomputable def b1s : List Int := [173, 847, 6150, 6155, 6156, 6157, 8203, 8204, 8205, 8288, 65279] ++ rangeInts 65024 1 (65040 - 65024 : Int).toNat
theorem b1s_ok : (b1s.all fun n => inB1 n && decide (0 ≤ n) && decide (n ≤ 1114111)) = true := by decide +kernel
theorem item_un {prog : Program} {w : World} {A : Around} {E : Value → Shared → Prop} {s : Shared} {Q : Value → Shared → Prop} {value slice : PySem.Expr} {l : Addr} {vs : List Value} {k : Int} {u : Tok}
    (hl : s.heap.IsList l vs.toArray) (hi : IntsAre vs b1s) (h0 : 0 ≤ k) (h1 : k < 27) (h : ∀ n t, inB1 n = true → 0 ≤ n → n ≤ 1114111 → Q (.int n t) s)
    (hs : subscripted slice false (.ref l) (.int k u) = operate [.ref l, .int k u] (getItem (.ref l) (.int k u)) := by with_unfolding_all rfl) :
    wpAny (model prog w) A (subscriptTail value slice (.ref l) (.int k u)) Q E s := by
  have hlen : vs.length = 27 := hi.length.trans (by decide)
  obtain ⟨v, hv⟩ : ∃ v, vs[k.toNat]? = some v := ⟨_, List.getElem?_eq_getElem (by omega)⟩
  obtain ⟨n, t, rfl, hn⟩ := hi.at _ _ hv
  have hm : n ∈ b1s := List.mem_of_getElem? hn
  have := List.all_eq_true.mp b1s_ok n hm
  simp only [Bool.and_eq_true, decide_eq_true_eq] at this
  exact tail_any hl.typeIs slot_list_getitem.lookup (wpAny_getItem_list hl h0 (by omega) (by simpa using hv) (h n t this.1.1 this.1.2 this.2)) hs
theorem mod27 (x : Int) : 0 ≤ x.fmod 27 ∧ x.fmod 27 < 27 := ⟨Int.fmod_nonneg_of_pos _ (by decide), Int.fmod_lt_of_pos _ (by decide)⟩
theorem con_letter {w : World} {p : Program} {loose : List PySem.Str} {mean : ExcName → Option Value} {mg mb : PySem.Str → Option Value} (dp un : Nat) (gd : Option (List Code)) (cn : PySem.Str) (cs : Scope) (a : Addr) (ccd : Value) (cl : List (PySem.Str × Addr)) (outer : List Env) (A₀ : Around) (base h₀ : Heap) (L : Addr) (m : PySem.Str → Option Value) (news : List (Addr × Obj)) (s : Shared) (x : Int) (tx : Tok)
    (Q E : Value → Shared → Prop) (B : Below A₀ base outer h₀) (F : Fr h₀ L s.heap m) (X : (K w.params).In h₀) (N : News h₀ L s.heap news) (T : Top p loose mean mg mb h₀) (hk : cs.kind = .function) (hd : dp + 8 < recursionLimit) (hu : un + 64 < cLine) (h0 : 0 ≤ x) (h1 : x < 12)
    (hret : ∀ t h' tk', Fr h₀ L h' m → News h₀ L h' news → Q (.str ⟨#[letterCode x]⟩ t) { s with heap := h', toks := tk' }) :
    wpAny (model pw w) (ktrTop dp un gd cn cs L a ccd cl outer) (call (.ref 240) [.int x tx]) Q E s := by
  
  refine wpAny_call ?_
  k_dflt (refine' code_defL ?k1 ?k2 ?k3 ?k4 ?k5 ?kA ?kF ?kK ?k6 ?kp ?kb ?ks ?k7 ?k8 ?k9 ?kB ?_ ?c2 ?c3 ?c4 ?c5; (case kA => exact rfl); (case kF => exact rfl); (case kK => assumption); (case k1 => k_asm); (case k2 => k_asm); (case k3 => k_asm); (case k4 => k_asm); (case k5 => k_asm); (case k6 => k_is); (case kp => conv => lhs; whnf); (case kb => conv => lhs; whnf); (case ks => conv => lhs; whnf); (case k7 => k_is); (case k8 => ktr_room); (case k9 => exact BindsTo.of_eq rfl); (case c5 => decide); (case kB => exact locs rfl); (case c2 => exact rfl); (case c3 => exact rfl); (case c4 => exact rfl); k_whole; intro gq9 Lq9 hq9 FGq9 Fq9 Nq9 Bq9 Xq9 Tq9; (try dsimp only); (try k_fold))
  (repeat' (first | (k_unfold; (try dsimp only)) | (k_end; wrow_close) | ((with_reducible show wpAny _ _ (binaryOp Operator.Add (Value.ref _) (Value.ref _)) _ _ _); k_dflt (refine' add_arrays_ints (by k_asm) (by k_asm) (by is_list) (by assumption) (by ints_lit) (by exact IntsAre.ofCarried (by assumption)) ?_ (by decide)); intro hq9 Fq9 Nq9 hIq9) | ((with_reducible show wpAny _ _ (call _ _) _ _ _); first | (refine chr_of_range (by assumption) (by assumption) ?_) | (refine chr_alph ?_)) | walk1 | (dsimp only; walk1) | (leave1; (try dsimp only)) | fail))
  · have e : x = 0 := by assumption
    have q : PySem.Str.ofString "k" = ⟨#[letterCode x]⟩ := by subst e; decide +kernel
    rw [q]
    exact hret _ _ _ (by k_asm) (by k_asm)
  · have e : x = 1 := by assumption
    have q : PySem.Str.ofString "\u212a" = ⟨#[letterCode x]⟩ := by subst e; decide +kernel
    rw [q]
    exact hret _ _ _ (by k_asm) (by k_asm)
  · have q : letterCode x = (119818 + 52 * alph.getD (x - 2).toNat 0).toNat := by
      unfold letterCode
      rw [if_neg (by assumption), if_neg (by assumption)]
    rw [← q]
    exact hret _ _ _ (by k_asm) (News.tail' (by assumption))

theorem con_unseen {w : World} {p : Program} {loose : List PySem.Str} {mean : ExcName → Option Value} {mg mb : PySem.Str → Option Value} (dp un : Nat) (gd : Option (List Code)) (cn : PySem.Str) (cs : Scope) (a : Addr) (ccd : Value) (cl : List (PySem.Str × Addr)) (outer : List Env) (A₀ : Around) (base h₀ : Heap) (L : Addr) (m : PySem.Str → Option Value) (news : List (Addr × Obj)) (s : Shared) (x : Int) (tx : Tok)
    (Q E : Value → Shared → Prop) (B : Below A₀ base outer h₀) (F : Fr h₀ L s.heap m) (X : (K w.params).In h₀) (N : News h₀ L s.heap news) (T : Top p loose mean mg mb h₀) (hk : cs.kind = .function) (hd : dp + 8 < recursionLimit) (hu : un + 64 < cLine) 
    (hret : ∀ (c : Nat) t h' tk', inB1 (c : Int) = true → c < 1114112 → Fr h₀ L h' m → News h₀ L h' news → Q (.str ⟨#[c]⟩ t) { s with heap := h', toks := tk' }) :
    wpAny (model pw w) (ktrTop dp un gd cn cs L a ccd cl outer) (call (.ref 233) [.int x tx]) Q E s := by
  
  refine wpAny_call ?_
  k_dflt (refine' code_defL ?k1 ?k2 ?k3 ?k4 ?k5 ?kA ?kF ?kK ?k6 ?kp ?kb ?ks ?k7 ?k8 ?k9 ?kB ?_ ?c2 ?c3 ?c4 ?c5; (case kA => exact rfl); (case kF => exact rfl); (case kK => assumption); (case k1 => k_asm); (case k2 => k_asm); (case k3 => k_asm); (case k4 => k_asm); (case k5 => k_asm); (case k6 => k_is); (case kp => conv => lhs; whnf); (case kb => conv => lhs; whnf); (case ks => conv => lhs; whnf); (case k7 => k_is); (case k8 => ktr_room); (case k9 => exact BindsTo.of_eq rfl); (case c5 => decide); (case kB => exact locs rfl); (case c2 => exact rfl); (case c3 => exact rfl); (case c4 => exact rfl); k_whole; intro gq9 Lq9 hq9 FGq9 Fq9 Nq9 Bq9 Xq9 Tq9; (try dsimp only); (try k_fold))
  (repeat' (first | (k_unfold; (try dsimp only)) | (k_end; wrow_close) | ((with_reducible show wpAny _ _ (subscriptTail _ _ _ _) _ _ _); k_dflt (refine' item_un (by is_list) (by assumption) (by exact (mod27 _).1) (by exact (mod27 _).2) ?_ (by with_unfolding_all rfl)); intro nq9 tq9 hnq9 h0q9 h1q9) | ((with_reducible show wpAny _ _ (binaryOp Operator.Add (Value.ref _) (Value.ref _)) _ _ _); k_dflt (refine' add_arrays_ints (by k_asm) (by k_asm) (by is_list) (by assumption) (by ints_lit) (by exact IntsAre.ofCarried (by assumption)) ?_ (by decide)); intro hq9 Fq9 Nq9 hIq9) | ((with_reducible show wpAny _ _ (call _ _) _ _ _); first | (refine chr_of_range (by assumption) (by assumption) ?_) | (refine chr_alph ?_)) | walk1 | (dsimp only; walk1) | (leave1; (try dsimp only)) | fail))
  rename inB1 _ = true => hn
  rename (0 : Int) ≤ _ => h0
  rename _ ≤ (1114111 : Int) => h1
  exact hret _ _ _ _ (by rw [Int.toNat_of_nonneg h0]; exact hn) (by omega) (by k_asm) (News.tail' (News.tail' (by assumption)))
end
local macro_rules | `(tactic| walk_at "callWith") => `(tactic| (k_here; (with_reducible show wpAny _ _ (callWith _ (Prod.fst (Value.builtin _, List.cons _ _)) _ _ _) _ _ _); refine callWith_method1 ?_))
section
set_option linter.unusedVariables false
set_option maxRecDepth 100000
set_option maxHeartbeats 4000000

noncomputable abbrev SgN : Type := Addr × (PySem.Str × Tok) × (PySem.Str × Tok)
noncomputable def tupOf (e : SgN) : Addr × Obj := (e.1, { cls := .type "tuple", data := .seq #[.str e.2.1.1 e.2.1.2, .str e.2.2.1 e.2.2.2] })
noncomputable def namesOf (x : Int) : List (PySem.Str × PySem.Str) :=
  (.ofString "&", .ofString "amp") :: (if x = 1 then [(.ofString "\r", .ofString "#xd")] else if x = 2 then [(.ofString "\r", .ofString "#13"), (.ofString "\n", .ofString "#10"), (.ofString "\t", .ofString "#09")]
    else if x = 4 then [(.ofString "\r", .ofString "#xd"), (.ofString "\n", .ofString "#xa"), (.ofString "\t", .ofString "#x9")] else [])
noncomputable def NamesEnd (h₀ : Heap) (L : Addr) (m : PySem.Str → Option Value) (news : List (Addr × Obj)) (s : Shared) (x : Int) (Q : Value → Shared → Prop) : Prop :=
  ∀ D (es : List SgN) n h' tk', (es.map fun e => (e.2.1.1, e.2.2.1)) = namesOf x → Fr h₀ L h' m → News h₀ L h' ((D, listOf (es.map fun e => Value.ref e.1).toArray n) :: (es.map tupOf ++ news)) → Q (.ref D) { s with heap := h', toks := tk' }
section
variable {h₀ h' : Heap} {L : Addr} {m : PySem.Str → Option Value} {news : List (Addr × Obj)} {s : Shared} {x : Int} {Q : Value → Shared → Prop} {D D1 D2 D3 D4 l : Addr} {o : Obj} {n tk : Nat} {t1 t2 t3 t4 u1 u2 u3 u4 : Tok} {a1 a2 a3 a4 b1 b2 b3 b4 : PySem.Str}
theorem names_end1 (h : NamesEnd h₀ L m news s x Q) (F : Fr h₀ L h' m) (N : News h₀ L h' ((D, listOf #[.ref D1] n) :: (D1, { cls := .type "tuple", data := .seq #[.str a1 t1, .str b1 u1] }) :: news)) (e : [(a1, b1)] = namesOf x) : Q (.ref D) { s with heap := h', toks := tk } :=
  h D [(D1, (a1, t1), (b1, u1))] n h' tk e F N
theorem names_end2 (h : NamesEnd h₀ L m news s x Q) (F : Fr h₀ L h' m) (N : News h₀ L h' ((D2, { cls := .type "tuple", data := .seq #[.str a2 t2, .str b2 u2] }) :: (D, listOf (#[Value.ref D1].push (.ref D2)) n) :: (D1, { cls := .type "tuple", data := .seq #[.str a1 t1, .str b1 u1] }) :: news)) (e : [(a1, b1), (a2, b2)] = namesOf x) : Q (.ref D) { s with heap := h', toks := tk } :=
  h D [(D1, (a1, t1), (b1, u1)), (D2, (a2, t2), (b2, u2))] n h' tk e F fun p hp => N p (by
    simp only [List.map_cons, List.map_nil, List.cons_append, List.nil_append, List.mem_cons, tupOf] at hp ⊢
    rcases hp with hp | hp | hp | hp
    · exact .inr (.inl hp)
    · exact .inr (.inr (.inl hp))
    · exact .inl hp
    · exact .inr (.inr (.inr hp)))
theorem names_end4 (h : NamesEnd h₀ L m news s x Q) (F : Fr h₀ L h' m) (N : News h₀ L h' ((l, o) :: (D4, { cls := .type "tuple", data := .seq #[.str a4 t4, .str b4 u4] }) :: (D3, { cls := .type "tuple", data := .seq #[.str a3 t3, .str b3 u3] }) :: (D2, { cls := .type "tuple", data := .seq #[.str a2 t2, .str b2 u2] }) :: (D, listOf #[Value.ref D1, .ref D2, .ref D3, .ref D4] n) :: (D1, { cls := .type "tuple", data := .seq #[.str a1 t1, .str b1 u1] }) :: news)) (e : [(a1, b1), (a2, b2), (a3, b3), (a4, b4)] = namesOf x) : Q (.ref D) { s with heap := h', toks := tk } :=
  h D [(D1, (a1, t1), (b1, u1)), (D2, (a2, t2), (b2, u2)), (D3, (a3, t3), (b3, u3)), (D4, (a4, t4), (b4, u4))] n h' tk e F fun p hp => N p (by
    simp only [List.map_cons, List.map_nil, List.cons_append, List.nil_append, List.mem_cons, tupOf] at hp ⊢
    rcases hp with hp | hp | hp | hp | hp | hp
    · exact .inr (.inr (.inr (.inr (.inl hp))))
    · exact .inr (.inr (.inr (.inr (.inr (.inl hp)))))
    · exact .inr (.inr (.inr (.inl hp)))
    · exact .inr (.inr (.inl hp))
    · exact .inr (.inl hp)
    · exact .inr (.inr (.inr (.inr (.inr (.inr hp))))))
end
theorem con_names0 {w : World} {p : Program} {loose : List PySem.Str} {mean : ExcName → Option Value} {mg mb : PySem.Str → Option Value} (dp un : Nat) (gd : Option (List Code)) (cn : PySem.Str) (cs : Scope) (a : Addr) (ccd : Value) (cl : List (PySem.Str × Addr)) (outer : List Env) (A₀ : Around) (base h₀ : Heap) (L : Addr) (m : PySem.Str → Option Value) (news : List (Addr × Obj)) (s : Shared) (tx : Tok)
    (Q E : Value → Shared → Prop) (B : Below A₀ base outer h₀) (F : Fr h₀ L s.heap m) (X : (K w.params).In h₀) (N : News h₀ L s.heap news) (T : Top p loose mean mg mb h₀) (hk : cs.kind = .function) (hd : dp + 8 < recursionLimit) (hu : un + 64 < cLine) 
    (hret : NamesEnd h₀ L m news s 0 Q) :
    wpAny (model pw w) (ktrTop dp un gd cn cs L a ccd cl outer) (call (.ref 247) [.int 0 tx]) Q E s := by
  
  refine wpAny_call ?_
  k_dflt (refine' code_defL ?k1 ?k2 ?k3 ?k4 ?k5 ?kA ?kF ?kK ?k6 ?kp ?kb ?ks ?k7 ?k8 ?k9 ?kB ?_ ?c2 ?c3 ?c4 ?c5; (case kA => exact rfl); (case kF => exact rfl); (case kK => assumption); (case k1 => k_asm); (case k2 => k_asm); (case k3 => k_asm); (case k4 => k_asm); (case k5 => k_asm); (case k6 => k_is); (case kp => conv => lhs; whnf); (case kb => conv => lhs; whnf); (case ks => conv => lhs; whnf); (case k7 => k_is); (case k8 => ktr_room); (case k9 => exact BindsTo.of_eq rfl); (case c5 => decide); (case kB => exact locs rfl); (case c2 => exact rfl); (case c3 => exact rfl); (case c4 => exact rfl); k_whole; intro gq9 Lq9 hq9 FGq9 Fq9 Nq9 Bq9 Xq9 Tq9; (try dsimp only); (try k_fold))
  k_steps
  exact names_end1 hret (by k_asm) (by assumption) (by decide +kernel)
theorem con_names1 {w : World} {p : Program} {loose : List PySem.Str} {mean : ExcName → Option Value} {mg mb : PySem.Str → Option Value} (dp un : Nat) (gd : Option (List Code)) (cn : PySem.Str) (cs : Scope) (a : Addr) (ccd : Value) (cl : List (PySem.Str × Addr)) (outer : List Env) (A₀ : Around) (base h₀ : Heap) (L : Addr) (m : PySem.Str → Option Value) (news : List (Addr × Obj)) (s : Shared) (tx : Tok)
    (Q E : Value → Shared → Prop) (B : Below A₀ base outer h₀) (F : Fr h₀ L s.heap m) (X : (K w.params).In h₀) (N : News h₀ L s.heap news) (T : Top p loose mean mg mb h₀) (hk : cs.kind = .function) (hd : dp + 8 < recursionLimit) (hu : un + 64 < cLine) 
    (hret : NamesEnd h₀ L m news s 1 Q) :
    wpAny (model pw w) (ktrTop dp un gd cn cs L a ccd cl outer) (call (.ref 247) [.int 1 tx]) Q E s := by
  
  refine wpAny_call ?_
  k_dflt (refine' code_defL ?k1 ?k2 ?k3 ?k4 ?k5 ?kA ?kF ?kK ?k6 ?kp ?kb ?ks ?k7 ?k8 ?k9 ?kB ?_ ?c2 ?c3 ?c4 ?c5; (case kA => exact rfl); (case kF => exact rfl); (case kK => assumption); (case k1 => k_asm); (case k2 => k_asm); (case k3 => k_asm); (case k4 => k_asm); (case k5 => k_asm); (case k6 => k_is); (case kp => conv => lhs; whnf); (case kb => conv => lhs; whnf); (case ks => conv => lhs; whnf); (case k7 => k_is); (case k8 => ktr_room); (case k9 => exact BindsTo.of_eq rfl); (case c5 => decide); (case kB => exact locs rfl); (case c2 => exact rfl); (case c3 => exact rfl); (case c4 => exact rfl); k_whole; intro gq9 Lq9 hq9 FGq9 Fq9 Nq9 Bq9 Xq9 Tq9; (try dsimp only); (try k_fold))
  k_steps
  exact names_end2 hret (by k_asm) (by assumption) (by decide +kernel)
theorem con_names2 {w : World} {p : Program} {loose : List PySem.Str} {mean : ExcName → Option Value} {mg mb : PySem.Str → Option Value} (dp un : Nat) (gd : Option (List Code)) (cn : PySem.Str) (cs : Scope) (a : Addr) (ccd : Value) (cl : List (PySem.Str × Addr)) (outer : List Env) (A₀ : Around) (base h₀ : Heap) (L : Addr) (m : PySem.Str → Option Value) (news : List (Addr × Obj)) (s : Shared) (tx : Tok)
    (Q E : Value → Shared → Prop) (B : Below A₀ base outer h₀) (F : Fr h₀ L s.heap m) (X : (K w.params).In h₀) (N : News h₀ L s.heap news) (T : Top p loose mean mg mb h₀) (hk : cs.kind = .function) (hd : dp + 8 < recursionLimit) (hu : un + 64 < cLine) 
    (hret : NamesEnd h₀ L m news s 2 Q) :
    wpAny (model pw w) (ktrTop dp un gd cn cs L a ccd cl outer) (call (.ref 247) [.int 2 tx]) Q E s := by
  
  refine wpAny_call ?_
  k_dflt (refine' code_defL ?k1 ?k2 ?k3 ?k4 ?k5 ?kA ?kF ?kK ?k6 ?kp ?kb ?ks ?k7 ?k8 ?k9 ?kB ?_ ?c2 ?c3 ?c4 ?c5; (case kA => exact rfl); (case kF => exact rfl); (case kK => assumption); (case k1 => k_asm); (case k2 => k_asm); (case k3 => k_asm); (case k4 => k_asm); (case k5 => k_asm); (case k6 => k_is); (case kp => conv => lhs; whnf); (case kb => conv => lhs; whnf); (case ks => conv => lhs; whnf); (case k7 => k_is); (case k8 => ktr_room); (case k9 => exact BindsTo.of_eq rfl); (case c5 => decide); (case kB => exact locs rfl); (case c2 => exact rfl); (case c3 => exact rfl); (case c4 => exact rfl); k_whole; intro gq9 Lq9 hq9 FGq9 Fq9 Nq9 Bq9 Xq9 Tq9; (try dsimp only); (try k_fold))
  k_steps
  exact names_end4 hret (by k_asm) (by assumption) (by decide +kernel)
theorem con_names3 {w : World} {p : Program} {loose : List PySem.Str} {mean : ExcName → Option Value} {mg mb : PySem.Str → Option Value} (dp un : Nat) (gd : Option (List Code)) (cn : PySem.Str) (cs : Scope) (a : Addr) (ccd : Value) (cl : List (PySem.Str × Addr)) (outer : List Env) (A₀ : Around) (base h₀ : Heap) (L : Addr) (m : PySem.Str → Option Value) (news : List (Addr × Obj)) (s : Shared) (tx : Tok)
    (Q E : Value → Shared → Prop) (B : Below A₀ base outer h₀) (F : Fr h₀ L s.heap m) (X : (K w.params).In h₀) (N : News h₀ L s.heap news) (T : Top p loose mean mg mb h₀) (hk : cs.kind = .function) (hd : dp + 8 < recursionLimit) (hu : un + 64 < cLine) 
    (hret : NamesEnd h₀ L m news s 3 Q) :
    wpAny (model pw w) (ktrTop dp un gd cn cs L a ccd cl outer) (call (.ref 247) [.int 3 tx]) Q E s := by
  
  refine wpAny_call ?_
  k_dflt (refine' code_defL ?k1 ?k2 ?k3 ?k4 ?k5 ?kA ?kF ?kK ?k6 ?kp ?kb ?ks ?k7 ?k8 ?k9 ?kB ?_ ?c2 ?c3 ?c4 ?c5; (case kA => exact rfl); (case kF => exact rfl); (case kK => assumption); (case k1 => k_asm); (case k2 => k_asm); (case k3 => k_asm); (case k4 => k_asm); (case k5 => k_asm); (case k6 => k_is); (case kp => conv => lhs; whnf); (case kb => conv => lhs; whnf); (case ks => conv => lhs; whnf); (case k7 => k_is); (case k8 => ktr_room); (case k9 => exact BindsTo.of_eq rfl); (case c5 => decide); (case kB => exact locs rfl); (case c2 => exact rfl); (case c3 => exact rfl); (case c4 => exact rfl); k_whole; intro gq9 Lq9 hq9 FGq9 Fq9 Nq9 Bq9 Xq9 Tq9; (try dsimp only); (try k_fold))
  k_steps
  exact names_end1 hret (by k_asm) (by assumption) (by decide +kernel)
theorem con_names4 {w : World} {p : Program} {loose : List PySem.Str} {mean : ExcName → Option Value} {mg mb : PySem.Str → Option Value} (dp un : Nat) (gd : Option (List Code)) (cn : PySem.Str) (cs : Scope) (a : Addr) (ccd : Value) (cl : List (PySem.Str × Addr)) (outer : List Env) (A₀ : Around) (base h₀ : Heap) (L : Addr) (m : PySem.Str → Option Value) (news : List (Addr × Obj)) (s : Shared) (tx : Tok)
    (Q E : Value → Shared → Prop) (B : Below A₀ base outer h₀) (F : Fr h₀ L s.heap m) (X : (K w.params).In h₀) (N : News h₀ L s.heap news) (T : Top p loose mean mg mb h₀) (hk : cs.kind = .function) (hd : dp + 8 < recursionLimit) (hu : un + 64 < cLine) 
    (hret : NamesEnd h₀ L m news s 4 Q) :
    wpAny (model pw w) (ktrTop dp un gd cn cs L a ccd cl outer) (call (.ref 247) [.int 4 tx]) Q E s := by
  
  refine wpAny_call ?_
  k_dflt (refine' code_defL ?k1 ?k2 ?k3 ?k4 ?k5 ?kA ?kF ?kK ?k6 ?kp ?kb ?ks ?k7 ?k8 ?k9 ?kB ?_ ?c2 ?c3 ?c4 ?c5; (case kA => exact rfl); (case kF => exact rfl); (case kK => assumption); (case k1 => k_asm); (case k2 => k_asm); (case k3 => k_asm); (case k4 => k_asm); (case k5 => k_asm); (case k6 => k_is); (case kp => conv => lhs; whnf); (case kb => conv => lhs; whnf); (case ks => conv => lhs; whnf); (case k7 => k_is); (case k8 => ktr_room); (case k9 => exact BindsTo.of_eq rfl); (case c5 => decide); (case kB => exact locs rfl); (case c2 => exact rfl); (case c3 => exact rfl); (case c4 => exact rfl); k_whole; intro gq9 Lq9 hq9 FGq9 Fq9 Nq9 Bq9 Xq9 Tq9; (try dsimp only); (try k_fold))
  k_steps
  exact names_end4 hret (by k_asm) (by assumption) (by decide +kernel)
theorem con_names {w : World} {p : Program} {loose : List PySem.Str} {mean : ExcName → Option Value} {mg mb : PySem.Str → Option Value} (dp un : Nat) (gd : Option (List Code)) (cn : PySem.Str) (cs : Scope) (a : Addr) (ccd : Value) (cl : List (PySem.Str × Addr)) (outer : List Env) (A₀ : Around) (base h₀ : Heap) (L : Addr) (m : PySem.Str → Option Value) (news : List (Addr × Obj)) (s : Shared) (x : Int) (tx : Tok)
    (Q E : Value → Shared → Prop) (B : Below A₀ base outer h₀) (F : Fr h₀ L s.heap m) (X : (K w.params).In h₀) (N : News h₀ L s.heap news) (T : Top p loose mean mg mb h₀) (hk : cs.kind = .function) (hd : dp + 8 < recursionLimit) (hu : un + 64 < cLine) (g0 : 0 ≤ x) (g1 : x < 5)
    (hret : NamesEnd h₀ L m news s x Q) :
    wpAny (model pw w) (ktrTop dp un gd cn cs L a ccd cl outer) (call (.ref 247) [.int x tx]) Q E s := by
  
  have hx : x = 0 ∨ x = 1 ∨ x = 2 ∨ x = 3 ∨ x = 4 := by omega
  rcases hx with rfl | rfl | rfl | rfl | rfl
  · exact con_names0 dp un gd cn cs a ccd cl outer A₀ base h₀ L m news s tx Q E B F X N T hk hd hu hret
  · exact con_names1 dp un gd cn cs a ccd cl outer A₀ base h₀ L m news s tx Q E B F X N T hk hd hu hret
  · exact con_names2 dp un gd cn cs a ccd cl outer A₀ base h₀ L m news s tx Q E B F X N T hk hd hu hret
  · exact con_names3 dp un gd cn cs a ccd cl outer A₀ base h₀ L m news s tx Q E B F X N T hk hd hu hret
  · exact con_names4 dp un gd cn cs a ccd cl outer A₀ base h₀ L m news s tx Q E B F X N T hk hd hu hret
end
section
set_option linter.unusedVariables false
set_option maxRecDepth 100000
set_option maxHeartbeats 4000000
section
variable {prog : Program} {w : World} {A : Around} {E : Value → Shared → Prop} {h : Heap} {g : Array GenState} {d : Drawn} {t : Nat} {os : OsState} {a : Addr} {its : Array Value} {n : Nat}
theorem kind_gi : builtinKind "list.__getitem__" = some Manifest.AttrKind.method := by decide +kernel
theorem typeOf_gi : typeOf (.builtin "list.__getitem__") = pure (.type "method_descriptor") := by show pure _ = _; rw [kind_gi]
theorem slot_md_get : Slot "method_descriptor" "__get__" "method_descriptor.__get__" :=
  .of (owner := "method_descriptor") (n := "__get__") (by rw [typeLookup_type, builtinLookup_eq_fast]; kernel_rfl) (by decide +kernel) (by decide +kernel) (by decide +kernel)
    (by first | exact .inl (by decide +kernel) | exact .inr (by decide +kernel)) (by rw [isSubtype_type]; kernel_rfl)
theorem entry_md_get : entryFor table "method_descriptor.__get__" = some Builtin.«method_descriptor.__get__» := entryFor_of_tree (by kernel_rfl)
theorem args_md_get (a b c : Value) : argsOk "method_descriptor.__get__" ⟨[a, b, c], []⟩ := by unfold argsOk; kernel_rfl
theorem lk_md_set : typeLookup (.type "method_descriptor") "__set__" = pure none := by rw [typeLookup_type, builtinLookup_eq_fast]; kernel_rfl
theorem lk_md_del : typeLookup (.type "method_descriptor") "__delete__" = pure none := by rw [typeLookup_type, builtinLookup_eq_fast]; kernel_rfl
theorem owner_gi : (".".intercalate ("list.__getitem__".cutAt '.').dropLast) = "list" := by
  have e0 : "list.__getitem__".cutAt '.' = ["list", "__getitem__"] := by first | rfl | decide +kernel
  rw [e0]; decide +kernel
theorem sub_gi : isSubtype (.type "list") (.type (".".intercalate ("list.__getitem__".cutAt '.').dropLast)) = pure true := by rw [owner_gi, isSubtype_type]; kernel_rfl
theorem ha_get {R : Result → Shared → Prop} (hx : h.get? a = some (listOf its n)) (hq : ∀ z h' t', (∀ b x, h.get? b = some x → h'.get? b = some x) → R (.ok (.ret (.ref z))) ⟨h', g, d, t', os⟩) :
    codeAny (model prog w) A (.call (.builtin "method_descriptor.__get__") ⟨[.builtin "list.__getitem__", .ref a, .type "list"], []⟩) R ⟨h, g, d, t, os⟩ := by
  have hT : (⟨h, g, d, t, os⟩ : Shared).TypeIs (.ref a) "list" := ⟨_, hx, rfl⟩
  have f5 := typeOf_gi
  have f7 : (⟨h, g, d, t, os⟩ : Shared).TypeIs (.builtin "list.__getitem__") "method_descriptor" := typeOf_gi
  have f8 := sub_gi
  refine codeAny_call_builtin slot_md_get.plain entry_md_get (slot_md_get.check _ _ _ _ _ _ _ _ f7 (args_md_get _ _ _) ?_)
  repeat (any_goals (first | assumption | wp_step))
  exact hq _ _ _ fun b x e => Heap.get?_push_of_some _ e
theorem ha_entry {tk : Tok} {Q : Fin → Shared → Prop} (hx : h.get? a = some (listOf its n)) (hq : ∀ z h' t', (∀ b x, h.get? b = some x → h'.get? b = some x) → Q (.done (.ret (.ref z))) ⟨h', g, d, t', os⟩) :
    wpAny (model prog w) A (Builtin.«object.__getattribute__» ⟨[.ref a, .str "__getitem__" tk], []⟩) Q E ⟨h, g, d, t, os⟩ := by
  have hT : (⟨h, g, d, t, os⟩ : Shared).TypeIs (.ref a) "list" := ⟨_, hx, rfl⟩
  have f4 := slot_list_getitem.lookup
  have f5 := typeOf_gi
  have f8 := slot_md_get.lookup
  have f9 := lk_md_set
  have f10 := lk_md_del
  have f11 : isSubtype (.type "list") (.type "module") = pure false := by rw [isSubtype_type]; kernel_rfl
  have f6 := F.slot_list_getattribute.lookup
  have f7 : (⟨h, g, d, t, os⟩ : Shared).TypeIs (.builtin "list.__getitem__") "method_descriptor" := typeOf_gi
  repeat (any_goals (first | assumption | wp_step))
  refine ha_get hx fun z h' t' hk => ?_
  repeat (any_goals (first | assumption | wp_step))
  exact hq _ _ _ hk
theorem ha_call {tk : Tok} {R : Result → Shared → Prop} (hx : h.get? a = some (listOf its n)) (hq : ∀ z h' t', (∀ b x, h.get? b = some x → h'.get? b = some x) → R (.ok (.ret (.ref z))) ⟨h', g, d, t', os⟩) :
    codeAny (model prog w) A (.call (.builtin "list.__getattribute__") ⟨[.ref a, .str "__getitem__" tk], []⟩) R ⟨h, g, d, t, os⟩ :=
  codeAny_call_builtin F.slot_list_getattribute.plain F.entry_list_ga (F.slot_list_getattribute.check _ _ _ _ _ _ _ _ (show (⟨h, g, d, t, os⟩ : Shared).TypeIs (.ref a) "list" from ⟨_, hx, rfl⟩) (F.args_list_getattribute_2 _ _) (ha_entry hx fun z h' t' hk => hq z h' t' hk))
theorem ha_main {tk : Tok} {Q : Fin → Shared → Prop} (hx : h.get? a = some (listOf its n)) (hq : ∀ h' t', (∀ b x, h.get? b = some x → h'.get? b = some x) → Q (.done (.ret (.bool true))) ⟨h', g, d, t', os⟩) :
    wpAny (model prog w) A (Builtin.«hasattr» ⟨[.ref a, .str "__getitem__" tk], []⟩) Q E ⟨h, g, d, t, os⟩ := by
  have hT : (⟨h, g, d, t, os⟩ : Shared).TypeIs (.ref a) "list" := ⟨_, hx, rfl⟩
  have f4 := slot_list_getitem.lookup
  have f5 := typeOf_gi
  have f8 := slot_md_get.lookup
  have f9 := lk_md_set
  have f10 := lk_md_del
  have f11 : isSubtype (.type "list") (.type "module") = pure false := by rw [isSubtype_type]; kernel_rfl
  have f3 := F.slot_list_getattribute.bind (.ref a)
  have f6 := F.slot_list_getattribute.lookup
  have f7 : (⟨h, g, d, t, os⟩ : Shared).TypeIs (.builtin "list.__getitem__") "method_descriptor" := typeOf_gi
  repeat (any_goals (first | assumption | wp_step))
  refine ha_call hx fun z h' t' hk => ?_
  repeat (any_goals (first | assumption | wp_step))
  exact hq _ _ hk
theorem kind_ha : builtinKind "hasattr" = none := by decide +kernel
theorem plain_ha : plainId "hasattr" = true := by decide +kernel
theorem entry_ha : entryFor table "hasattr" = some Builtin.«hasattr» := entryFor_of_tree (by kernel_rfl)
theorem args_ha (a b : Value) : argsOk "hasattr" ⟨[a, b], []⟩ := by unfold argsOk; kernel_rfl
theorem hasattr_item {tk : Tok} {s : Shared} {Q : Value → Shared → Prop} (hx : s.heap.get? a = some (listOf its n)) (hq : ∀ h' t', (∀ b x, s.heap.get? b = some x → h'.get? b = some x) → Q (.bool true) { s with heap := h', toks := t' }) :
    wpAny (model prog w) A (call (.builtin "hasattr") [.ref a, .str "__getitem__" tk]) Q E s := by
  refine call_function_any kind_ha plain_ha entry_ha (args_ha _ _) ?_
  exact ha_main hx fun h' t' hk => hq h' t' hk
end
end
section
set_option linter.unusedVariables false
set_option maxRecDepth 100000
set_option maxHeartbeats 4000000

theorem add_arraysF {prog : Program} {w : World} {A : Around} {E : Value → Shared → Prop} {s : Shared} {h₀ : Heap} {L : Addr} {m : PySem.Str → Option Value} {news : List (Addr × Obj)} {l b : Addr} {its its2 : Array Value} {Q : Value → Shared → Prop} (F : Fr h₀ L s.heap m) (N : News h₀ L s.heap news) (hl : s.heap.IsList l its) (hb : s.heap.IsList b its2)
    (h : ∀ D h', (∀ p ∈ news, @LT.lt Nat _ p.1 D) → Fr h₀ L h' m → News h₀ L h' ((D, { cls := .type "list", data := .seq (its.toList ++ its2.toList).toArray }) :: news) → Q (.ref D) { s with heap := h' })
    (hsz : its.size + its2.size ≤ sizeLine) : wpAny (model prog w) A (binaryOp .Add (.ref l) (.ref b)) Q E s :=
  add_arrays F N hl hb (fun h' F' N' => h _ h' (fun p hp => Heap.lt_size (N p hp).1) F' N') hsz
theorem ha_line {w : World} {A : Around} {E : Value → Shared → Prop} {s : Shared} {h₀ : Heap} {L a : Addr} {m : PySem.Str → Option Value} {news : List (Addr × Obj)} {its : Array Value} {n : Nat} {tk : Tok} {Q : Value → Shared → Prop} (F : Fr h₀ L s.heap m) (N : News h₀ L s.heap news) (hm : (a, listOf its n) ∈ news) (hq : ∀ h' t', Fr h₀ L h' m → News h₀ L h' news → Q (.bool true) { s with heap := h', toks := t' }) :
    wpAny (model pw w) A (call (.builtin "hasattr") [.ref a, .str "__getitem__" tk]) Q E s :=
  hasattr_item (N _ hm).1 fun h' t' hk => hq h' t' (F.keeps hk) (N.grown hk)
theorem con_concat {w : World} {p : Program} {loose : List PySem.Str} {mean : ExcName → Option Value} {mg mb : PySem.Str → Option Value} (dp un : Nat) (gd : Option (List Code)) (cn : PySem.Str) (cs : Scope) (a : Addr) (ccd : Value) (cl : List (PySem.Str × Addr)) (outer : List Env) (A₀ : Around) (base h₀ : Heap) (L : Addr) (m : PySem.Str → Option Value) (news : List (Addr × Obj)) (s : Shared) (la lb : Addr) (its its2 : Array Value) (na nb : Nat)
    (Q E : Value → Shared → Prop) (B : Below A₀ base outer h₀) (F : Fr h₀ L s.heap m) (X : (K w.params).In h₀) (N : News h₀ L s.heap news) (T : Top p loose mean mg mb h₀) (hk : cs.kind = .function) (hd : dp + 8 < recursionLimit) (hu : un + 64 < cLine) (ha : (la, listOf its na) ∈ news) (hb : (lb, listOf its2 nb) ∈ news) (hsz : its.size + its2.size ≤ sizeLine)
    (hret : ∀ D h' tk', (∀ p ∈ news, @LT.lt Nat _ p.1 D) → Fr h₀ L h' m → News h₀ L h' ((D, { cls := .type "list", data := .seq (its.toList ++ its2.toList).toArray }) :: news) → Q (.ref D) { s with heap := h', toks := tk' }) :
    wpAny (model pw w) (ktrTop dp un gd cn cs L a ccd cl outer) (call (.ref 94) [.ref la, .ref lb]) Q E s := by
  
  refine wpAny_call ?_
  k_dflt (refine' code_defL ?k1 ?k2 ?k3 ?k4 ?k5 ?kA ?kF ?kK ?k6 ?kp ?kb ?ks ?k7 ?k8 ?k9 ?kB ?_ ?c2 ?c3 ?c4 ?c5; (case kA => exact rfl); (case kF => exact rfl); (case kK => assumption); (case k1 => k_asm); (case k2 => k_asm); (case k3 => k_asm); (case k4 => k_asm); (case k5 => k_asm); (case k6 => k_is); (case kp => conv => lhs; whnf); (case kb => conv => lhs; whnf); (case ks => conv => lhs; whnf); (case k7 => k_is); (case k8 => ktr_room); (case k9 => exact BindsTo.of_eq rfl); (case c5 => decide); (case kB => exact locs rfl); (case c2 => exact rfl); (case c3 => exact rfl); (case c4 => exact rfl); k_whole; intro gq9 Lq9 hq9 FGq9 Fq9 Nq9 Bq9 Xq9 Tq9; (try dsimp only); (try k_fold))
  (repeat' (first | (k_unfold; (try dsimp only)) | (k_end; wrow_close) | with_reducible ((with_reducible show wpAny _ _ (binaryOp Operator.Add (Value.ref _) (Value.ref _)) _ _ _); k_dflt (refine' add_arraysF ?F ?N ?a ?b ?_ ?z; (case F => k_asm); (case N => k_asm); (case a => exact News.isList (by k_asm) (by assumption)); (case b => exact News.isList (by k_asm) (by assumption)); (case z => assumption)); intro Dq9 hq9 lFq9 Fq9 Nq9) | with_reducible ((with_reducible show wpAny _ _ (call _ _) _ _ _); k_dflt (refine ha_line (by k_asm) (by k_asm) (by assumption) ?_); intro hq9 tq9 Fq9 Nq9) | walk1 | (dsimp only; walk1) | (leave1; (try dsimp only)) | fail))
  exact hret _ _ _ (by assumption) (by k_asm) (by k_asm)
end
section
set_option linter.unusedVariables false
set_option maxRecDepth 100000
set_option maxHeartbeats 4000000

theorem join_is {prog : Program} {w : World} {A : Around} {E : Value → Shared → Prop} {s : Shared} {x : PySem.Str} {t : Tok} {Q : Value → Shared → Prop} {D : Addr} {items : Array Value} {ys : List PySem.Str} (hl : s.heap.IsList D items) (hi : StrsAre items.toList ys) (hw : (ys.map (·.length)).sum + ys.length ≤ 1048576) (hx : Txt.join (.ofString "") ys = x)
    (h : ∀ t' k, Q (.str x t') { s with toks := k }) : wpAny (model prog w) A (call (.builtin "str.join") [.str (.ofString "") t, .ref D]) Q E s := by
  subst hx; exact join_listW hl hi (by decide) hw h
noncomputable def lineSign (a : PySem.Str) : PySem.Str := if (a == .ofString "k") = true then .ofString "	" else .ofString " "
noncomputable def lineOf (x : PySem.Str) : PySem.Str := Txt.join (.ofString "") ((signs x).map lineSign)
theorem join_line {prog : Program} {w : World} {A : Around} {E : Value → Shared → Prop} {s : Shared} {x : PySem.Str} {t : Tok} {Q : Value → Shared → Prop} {D : Addr} {ys : List Value} (hl : s.heap.IsList D ys.toArray)
    (hc : CarriedAll ys (List.map (fun a => if (a == PySem.Str.ofString "k") = true then PyData.str (PySem.Str.ofString "	") else PyData.str (PySem.Str.ofString " ")) (List.filter (fun a => true) (signs x)))) (hx : x.length ≤ 1000)
    (h : ∀ t' k, Q (.str (lineOf x) t') { s with toks := k }) : wpAny (model prog w) A (call (.builtin "str.join") [.str (.ofString "") t, .ref D]) Q E s := by
  have e : (fun a : PySem.Str => if (a == PySem.Str.ofString "k") = true then PyData.str (PySem.Str.ofString "	") else PyData.str (PySem.Str.ofString " ")) = fun a => PyData.str (lineSign a) := by
    funext a; unfold lineSign; split <;> rfl
  rw [e] at hc
  have hf : (signs x).filter (fun _ => true) = signs x := List.filter_eq_self.mpr fun _ _ => rfl
  have hs := CarriedAll.strsOf hc
  rw [hf] at hs
  have h1 : ∀ l : List PySem.Str, (l.map fun a => (lineSign a).length).sum = l.length := by
    intro l
    induction l with
    | nil => rfl
    | cons a l ih =>
      rw [List.map_cons, List.sum_cons, ih, List.length_cons]
      have : (lineSign a).length = 1 := by unfold lineSign; split <;> rfl
      omega
  have h2 : (signs x).length = x.length := by simp [signs, PySem.Str.length]
  refine join_is hl (by simpa using hs) ?_ rfl h
  rw [List.map_map, List.length_map]
  have := h1 (signs x)
  show (List.map (fun a => (lineSign a).length) (signs x)).sum + (signs x).length ≤ 1048576
  omega
theorem con_line {w : World} {p : Program} {loose : List PySem.Str} {mean : ExcName → Option Value} {mg mb : PySem.Str → Option Value} (dp un : Nat) (gd : Option (List Code)) (cn : PySem.Str) (cs : Scope) (a : Addr) (ccd : Value) (cl : List (PySem.Str × Addr)) (outer : List Env) (A₀ : Around) (base h₀ : Heap) (L : Addr) (m : PySem.Str → Option Value) (news : List (Addr × Obj)) (s : Shared) (l : Addr) (vs : List Value) (n : Nat) (ss : List PySem.Str) (x : PySem.Str)
    (Q E : Value → Shared → Prop) (B : Below A₀ base outer h₀) (F : Fr h₀ L s.heap m) (X : (K w.params).In h₀) (N : News h₀ L s.heap news) (T : Top p loose mean mg mb h₀) (hk : cs.kind = .function) (hd : dp + 8 < recursionLimit) (hu : un + 64 < cLine) (hl : (l, listOf vs.toArray n) ∈ news) (hss : StrsAre vs.toArray.toList ss) (hw : (ss.map (·.length)).sum + ss.length ≤ 1048576) (hx : Txt.join (.ofString "") ss = x) (hxl : x.length ≤ 1000)
    (hret : ∀ t h' tk', Fr h₀ L h' m → News h₀ L h' news → Q (.str (lineOf x) t) { s with heap := h', toks := tk' }) :
    wpAny (model pw w) (ktrTop dp un gd cn cs L a ccd cl outer) (call (.ref 257) [.ref l]) Q E s := by
  
  refine wpAny_call ?_
  k_dflt (refine' code_defL ?k1 ?k2 ?k3 ?k4 ?k5 ?kA ?kF ?kK ?k6 ?kp ?kb ?ks ?k7 ?k8 ?k9 ?kB ?_ ?c2 ?c3 ?c4 ?c5; (case kA => exact rfl); (case kF => exact rfl); (case kK => assumption); (case k1 => k_asm); (case k2 => k_asm); (case k3 => k_asm); (case k4 => k_asm); (case k5 => k_asm); (case k6 => k_is); (case kp => conv => lhs; whnf); (case kb => conv => lhs; whnf); (case ks => conv => lhs; whnf); (case k7 => k_is); (case k8 => ktr_room); (case k9 => exact BindsTo.of_eq rfl); (case c5 => decide); (case kB => exact locs rfl); (case c2 => exact rfl); (case c3 => exact rfl); (case c4 => exact rfl); k_whole; intro gq9 Lq9 hq9 FGq9 Fq9 Nq9 Bq9 Xq9 Tq9; (try dsimp only); (try k_fold))
  (repeat' (first | (k_unfold; (try dsimp only)) | (k_end; wrow_close) | with_reducible ((with_reducible show wpAny _ _ (call _ _) _ _ _); first | (k_dflt (refine join_is (News.isList (by k_asm) (by assumption)) (by assumption) (by assumption) (by assumption) ?_); intro tq9 kq9) | (k_dflt (refine join_line (by assumption) (by assumption) (by assumption) ?_); intro tq9 kq9)) | walk1 | (dsimp only; walk1) | (leave1; (try dsimp only)) | fail))
  exact hret _ _ _ (by k_asm) (by first | k_asm | exact News.tail' (by assumption))
end
section
set_option linter.unusedVariables false
set_option maxRecDepth 100000
set_option maxHeartbeats 4000000

local macro_rules | `(tactic| walk_at "exec For Name Attribute cons nil") => `(tactic| walk_at "mine.1")
local macro_rules | `(tactic| walk_at "TurnT") => `(tactic| walk_at "mine.1")
theorem tup_line {w : World} {A : Around} {E : Value → Shared → Prop} {s : Shared} {h₀ : Heap} {L D : Addr} {m : PySem.Str → Option Value} {news : List (Addr × Obj)} {its : Array Value} {n : Nat} {Q : Value → Shared → Prop} (F : Fr h₀ L s.heap m) (N : News h₀ L s.heap news) (hm : (D, listOf its n) ∈ news) (hsz : its.size ≤ sizeLine)
    (h : ∀ T h', Fr h₀ L h' m → News h₀ L h' ((T, { cls := .type "tuple", data := .seq its }) :: news) → (∀ p ∈ news, p.1 < T) → Q (.ref T) { s with heap := h' }) : wpAny (model pw w) A (call (.type "tuple") [.ref D]) Q E s := by
  refine call_tuple_list (N.isList hm) (fun h' hk => ?_) hsz
  have F' : Fr h₀ L h' m := F.keeps hk
  have N' : News h₀ L h' news := N.grown hk
  refine h _ _ (F'.push _) (fun p hp => ?_) (fun p hp => Heap.lt_size (N' p hp).1)
  rcases List.mem_cons.mp hp with rfl | hp
  · exact ⟨Heap.get?_push_size _ rfl, Ne.symm (Nat.ne_of_lt F'.ns.lt), F'.fresh⟩
  · exact N'.pushKeep _ p hp
structure WsSt where
  D : Addr
  its : List Value
  k : Nat
  cs : List Int
  b : Int
  n : Int
  nt : Int
  tb : Tok
  tn : Tok
  tt : Tok
noncomputable abbrev WsV := List Int × Int × Int × Int
noncomputable def bump (cs : List Int) (b : Int) : List Int :=
  let c := if (cs.length : Int) ≤ b then cs ++ (List.replicate (b - cs.length + 1).toNat [0]).flatten else cs
  c.set b.toNat (c.getD b.toNat 0 + 1)
noncomputable def wsRun : List Nat → WsV → WsV
  | [], st => st
  | c :: r, (cs, b, n, nt) => if c = 32 then wsRun r (cs, b + 1, n + 1, nt) else if c = 9 then wsRun r (bump cs b, 0, n + 1, nt + 1) else (cs, b, n, nt)
theorem ovr_old {l : List (PySem.Str × Value)} {m : PySem.Str → Option Value} {y : PySem.Str} (h : ∀ p ∈ l, y ≠ p.1) : ovr l m y = m y := by
  unfold ovr
  rw [List.lookup_eq_none_iff.mpr fun p hp => by simpa using h p hp]
theorem mapL {x : PySem.Str} {l : List (PySem.Str × Value)} {m m' : PySem.Str → Option Value} (h1 : ∀ p ∈ l, m' p.1 = some p.2) (h2 : ∀ y, y ≠ x → (∀ p ∈ l, y ≠ p.1) → m' y = m y) : MapIs x (ovr l m) m' := by
  intro y hy
  by_cases q : ∀ p ∈ l, y ≠ p.1
  · rw [ovr_old q]; exact h2 y hy q
  · unfold ovr
    cases e : l.lookup y with
    | none => exact absurd (fun p hp => by simpa using List.lookup_eq_none_iff.mp e p hp) q
    | some v =>
      have : (y, v) ∈ l := by
        clear h1 h2 q
        induction l with
        | nil => cases e
        | cons p l ih =>
          rw [List.lookup_cons] at e
          split at e
          · rename_i q; cases e; rw [eq_of_beq q]; exact List.mem_cons_self
          · exact List.mem_cons_of_mem _ (ih e)
      exact h1 _ this
theorem code_of {c d : Nat} {l : PySem.Str} (h : (({ cps := #[c] } : PySem.Str) == l) = true) (hl : l = ⟨#[d]⟩) : c = d := by
  subst hl
  have := congrArg PySem.Str.cps (eq_of_beq h)
  simpa using this
theorem code_ne {c d : Nat} {l : PySem.Str} (h : (({ cps := #[c] } : PySem.Str) == l) = false) (hl : l = ⟨#[d]⟩) : c ≠ d := by
  subst hl
  intro e; subst e
  simp at h
theorem bump_len {cs : List Int} {b : Int} {i : Nat} (hb0 : 0 ≤ b) (hb1 : b ≤ i) (hl : cs.length ≤ i + 1) : (bump cs b).length ≤ i + 1 + 1 := by
  unfold bump
  split <;> simp <;> omega
theorem bump_ge {cs : List Int} {b : Int} (h : (cs.length : Int) ≤ b) : bump cs b = (cs ++ (List.replicate (b - cs.length + 1).toNat [0]).flatten).set b.toNat ((cs ++ (List.replicate (b - cs.length + 1).toNat [0]).flatten).getD b.toNat 0 + 1) := by
  unfold bump; rw [if_pos h]
theorem bump_lt {cs : List Int} {b : Int} (h : ¬ (cs.length : Int) ≤ b) : bump cs b = cs.set b.toNat (cs.getD b.toNat 0 + 1) := by
  unfold bump; rw [if_neg h]
structure Ws where
  I : Addr
  d : Addr
  P : Addr
  T : Addr
  its : List Value
  cs : List Int
  b : Int
  n : Int
  nt : Int
  x : PySem.Str
  s : Bool
  t1 : Tok
  t2 : Tok
  t3 : Tok
  t4 : Tok
  t5 : Tok
  tx : Tok
  tb : Tok
  tn : Tok
  tt : Tok
noncomputable def wsEnt (P : Params) (nm : PySem.Str) (t : Tok) (v : Value) : DictEntry := { hash := PyData.keyHash P nm, key := .str nm t, val := v }
noncomputable def wsLed (P : Params) (o : Ws) : List (Addr × Obj) :=
  [(o.P, { cls := .type "tuple", data := .seq #[.ref o.T, .int o.b o.tb] }), (o.T, { cls := .type "tuple", data := .seq o.its.toArray }), (o.I, instObj 83 o.d),
   (o.d, dictOf [{ hash := PyData.keyHash P (.ofString "raw"), key := .str (.ofString "raw") o.t1, val := .str o.x o.tx }, { hash := PyData.keyHash P (.ofString "n"), key := .str (.ofString "n") o.t2, val := .int o.n o.tn },
     { hash := PyData.keyHash P (.ofString "nt"), key := .str (.ofString "nt") o.t3, val := .int o.nt o.tt }, { hash := PyData.keyHash P (.ofString "norm"), key := .str (.ofString "norm") o.t4, val := .ref o.P },
     { hash := PyData.keyHash P (.ofString "is_simple"), key := .str (.ofString "is_simple") o.t5, val := .bool o.s }] 5)]
noncomputable def WsInv (x : PySem.Str) (i : Nat) (a : WsSt) (_ : Nat) : Prop :=
  IntsAre a.its a.cs ∧ wsRun (x.cps.toList.drop i) (a.cs, a.b, a.n, a.nt) = wsRun x.cps.toList ([], 0, 0, 0) ∧ 0 ≤ a.b ∧ a.b ≤ i ∧ a.cs.length ≤ i + 1
noncomputable def WsDone (x : PySem.Str) (a : WsSt) : Prop := IntsAre a.its a.cs ∧ wsRun x.cps.toList ([], 0, 0, 0) = (a.cs, a.b, a.n, a.nt) ∧ a.cs.length ≤ x.cps.size + 1
theorem WsInv.done {x : PySem.Str} {a : WsSt} {tk : Nat} (h : WsInv x x.cps.size a tk) : WsDone x a := by
  obtain ⟨h1, h2, _, _, h5⟩ := h
  refine ⟨h1, ?_, h5⟩
  rw [← h2, List.drop_of_length_le (by simp)]; rfl
theorem ws_end {w : World} {x : PySem.Str} {tx : Tok} {h₀ h' : Heap} {L I d P T D S : Addr} {m : PySem.Str → Option Value} {news : List (Addr × Obj)} {s : Shared} {Q : Value → Shared → Prop} {its : List Value} {cs : List Int} {b n nt : Int} {kk : Nat} {oS : Obj} {t1 t2 t3 t4 t5 tb tn tt : Tok} {sm : Bool} {tk : Nat}
    (hret : ∀ (o : Ws) h' tk', IntsAre o.its o.cs → (∀ q ∈ news, @LT.lt Nat _ q.1 o.d ∧ @LT.lt Nat _ q.1 o.I ∧ @LT.lt Nat _ q.1 o.T ∧ @LT.lt Nat _ q.1 o.P) → wsRun x.cps.toList ([], 0, 0, 0) = (o.cs, o.b, o.n, o.nt) → Fr h₀ L h' m → News h₀ L h' (wsLed w.params o ++ news) → Q (.ref o.I) { s with heap := h', toks := tk' })
    (hI : IntsAre its cs) (hlo : ∀ q ∈ news, @LT.lt Nat _ q.1 d ∧ @LT.lt Nat _ q.1 I ∧ @LT.lt Nat _ q.1 T ∧ @LT.lt Nat _ q.1 P) (hr : wsRun x.cps.toList ([], 0, 0, 0) = (cs, b, n, nt)) (F : Fr h₀ L h' m)
    (N : News h₀ L h' ((P, { cls := .type "tuple", data := .seq #[.ref T, .int b tb] }) :: (T, { cls := .type "tuple", data := .seq its.toArray }) :: (D, listOf its.toArray kk) :: (S, oS) :: (I, instObj 83 d) ::
      (d, dictOf [{ hash := PyData.keyHash w.params (.ofString "raw"), key := .str (.ofString "raw") t1, val := .str x tx }, { hash := PyData.keyHash w.params (.ofString "n"), key := .str (.ofString "n") t2, val := .int n tn },
        { hash := PyData.keyHash w.params (.ofString "nt"), key := .str (.ofString "nt") t3, val := .int nt tt }, { hash := PyData.keyHash w.params (.ofString "norm"), key := .str (.ofString "norm") t4, val := .ref P },
        { hash := PyData.keyHash w.params (.ofString "is_simple"), key := .str (.ofString "is_simple") t5, val := .bool sm }] 5) :: news)) : Q (.ref I) { s with heap := h', toks := tk } :=
  hret ⟨I, d, P, T, its, cs, b, n, nt, x, sm, t1, t2, t3, t4, t5, tx, tb, tn, tt⟩ h' tk hI hlo hr F fun p hp => N p (by
    simp only [wsLed, List.cons_append, List.nil_append, List.mem_cons] at hp ⊢
    rcases hp with hp | hp | hp | hp | hp
    · exact .inl hp
    · exact .inr (.inl hp)
    · exact .inr (.inr (.inr (.inr (.inl hp))))
    · exact .inr (.inr (.inr (.inr (.inr (.inl hp)))))
    · exact .inr (.inr (.inr (.inr (.inr (.inr hp))))))
theorem con_init {w : World} {p : Program} {loose : List PySem.Str} {mean : ExcName → Option Value} {mg mb : PySem.Str → Option Value} (dp un : Nat) (gd : Option (List Code)) (cn : PySem.Str) (cs : Scope) (a : Addr) (ccd : Value) (cl : List (PySem.Str × Addr)) (outer : List Env) (A₀ : Around) (base h₀ : Heap) (L : Addr) (m : PySem.Str → Option Value) (news : List (Addr × Obj)) (s : Shared) (x : PySem.Str) (tx : Tok)
    (Q E : Value → Shared → Prop) (B : Below A₀ base outer h₀) (F : Fr h₀ L s.heap m) (X : (K w.params).In h₀) (N : News h₀ L s.heap news) (T : Top p loose mean mg mb h₀) (hk : cs.kind = .function) (hd : dp + 8 < recursionLimit) (hu : un + 64 < cLine) (hx : x.length ≤ 200)
    (hret : ∀ (o : Ws) h' tk', IntsAre o.its o.cs → (∀ q ∈ news, @LT.lt Nat _ q.1 o.d ∧ @LT.lt Nat _ q.1 o.I ∧ @LT.lt Nat _ q.1 o.T ∧ @LT.lt Nat _ q.1 o.P) → wsRun x.cps.toList ([], 0, 0, 0) = (o.cs, o.b, o.n, o.nt) → Fr h₀ L h' m → News h₀ L h' (wsLed w.params o ++ news) → Q (.ref o.I) { s with heap := h', toks := tk' }) :
    wpAny (model pw w) (ktrTop dp un gd cn cs L a ccd cl outer) (call (.ref 83) [.str x tx]) Q E s := by
  
  k_dflt (refine' call_cls ?k1 ?k2 ?k3 ?k4 ?k5 ?k6 ?_; (case k1 => k_asm); (case k2 => k_asm); (case k3 => k_asm); (case k4 => k_is); (case k5 => k_is); (case k6 => k_is); k_whole; intro x' d' h' F' N' l1 l2; (try k_lt l1); (try k_lt2 l2); (try k_sweep); (refine' code_defL ?k1 ?k2 ?k3 ?k4 ?k5 ?kA ?kF ?kK ?k6 ?kp ?kb ?ks ?k7 ?k8 ?k9 ?kB ?_ ?c2 ?c3 ?c4 ?c5; (case kA => exact rfl); (case kF => exact rfl); (case kK => assumption); (case k1 => k_asm); (case k2 => k_asm); (case k3 => k_asm); (case k4 => k_asm); (case k5 => k_asm); (case k6 => k_is); (case kp => conv => lhs; whnf); (case kb => conv => lhs; whnf); (case ks => conv => lhs; whnf); (case k7 => k_is); (case k8 => ktr_room); (case k9 => exact BindsTo.of_eq rfl); (case c5 => decide); (case kB => exact locs rfl); (case c2 => exact rfl); (case c3 => exact rfl); (case c4 => exact rfl); k_whole; intro gq9 Lq9 hq9 FGq9 Fq9 Nq9 Bq9 Xq9 Tq9; (try dsimp only); (try k_fold)))
  (repeat' (first | (k_unfold; (try dsimp only)) | (k_end; wrow_close) | with_reducible ((with_reducible show wpAny _ _ (call _ _) _ _ _); k_dflt (refine' tup_line ?F ?N ?m ?z ?_; (case F => k_asm); (case N => k_asm); (case m => k_mem); (case z => (rw [List.size_toArray]; have hz := IntsAre.length (by assumption); rw [sizeLine_eq]; omega)); intro Tq9 hq9 Fq9 Nq9 l1q9; (try k_lt l1q9); (try k_sweep))) | walk1 | (dsimp only; walk1) | (leave1; (try dsimp only)) | fail))
  unfold Halt
  rename Fr _ _ _ _ => F1
  rename News _ _ _ _ => N1
  refine' For_strB (σ := WsSt) (xs := x) (t := tx) F1 ?hh (by rfl) (by rfl) (fun h => ?hv) (fun a => [(.ofString "nt", .int a.nt a.tt), (.ofString "n", .int a.n a.tn), (.ofString "b", .int a.b a.tb), (.ofString "count", .ref a.D)]) (fun a => (a.D, listOf a.its.toArray a.k)) _ (WsInv x) (WsDone x) ⟨_, [], 0, [], 0, 0, 0, _, _, _⟩ ?hm N1 ?k0 ?kA ?step ?kD ?done
  case hh => with_unfolding_all exact rfl
  case hm =>
    intro p hp
    simp only [List.mem_cons, List.not_mem_nil, or_false] at hp
    rcases hp with rfl | rfl | rfl | rfl <;> rfl
  case hv => (repeat' (first | (k_unfold; (try dsimp only)) | (k_end; wrow_close) | with_reducible ((with_reducible show wpAny _ _ (call _ _) _ _ _); k_dflt (refine' tup_line ?F ?N ?m ?z ?_; (case F => k_asm); (case N => k_asm); (case m => k_mem); (case z => (rw [List.size_toArray]; have hz := IntsAre.length (by assumption); rw [sizeLine_eq]; omega)); intro Tq9 hq9 Fq9 Nq9 l1q9; (try k_lt l1q9); (try k_sweep))) | walk1 | (dsimp only; walk1) | (leave1; (try dsimp only)) | fail)); exact h _
  case k0 => intro k; exact ⟨.nil, rfl, Int.le_refl _, Int.le_refl _, Nat.zero_le _⟩
  case kA => first | assumption | exact ⟨by assumption, by assumption⟩
  case step =>
    intro i c a h u oI I hc hi hA F2 hne N2
    obtain ⟨D, its, kk, cs, b, n, nt, tb, tn, tt⟩ := a
    obtain ⟨hI, hrun, hb0, hb1, hl⟩ := hi
    dsimp only at hI hrun hb0 hb1 hl N2 F2 hA hne
    have hDI : @Ne Nat D I := hne _ List.mem_cons_self
    simp only [AllLt] at hA
    have hA' := hA
    obtain ⟨hA1, hA2, hA3, hA4⟩ := hA'
    have hlt : i < x.length := by
      have := (Array.getElem?_eq_some_iff.mp hc).1
      exact this
    have hd : x.cps.toList.drop i = c :: x.cps.toList.drop (i + 1) := by
      have h' : x.cps.toList[i]? = some c := by simpa using hc
      exact (List.getElem?_eq_some_iff.mp h').2 ▸ List.drop_eq_getElem_cons _
    (repeat' (first | (k_unfold; (try dsimp only)) | (k_end; wrow_close) | with_reducible ((with_reducible show wpAny _ _ (call _ _) _ _ _); k_dflt (refine' tup_line ?F ?N ?m ?z ?_; (case F => k_asm); (case N => k_asm); (case m => k_mem); (case z => (rw [List.size_toArray]; have hz := IntsAre.length (by assumption); rw [sizeLine_eq]; omega)); intro Tq9 hq9 Fq9 Nq9 l1q9; (try k_lt l1q9); (try k_sweep))) | walk1 | (dsimp only; walk1) | (leave1; (try dsimp only)) | fail))
    · rename Fr _ _ _ _ => F9
      rename News _ _ _ _ => N9
      unfold Halt
      refine turn_end (.inl rfl) ⟨D, its, kk, cs, b + 1, n + 1, nt, _, _, tt⟩ F9 N9 hne (mapL (by intro p hp; simp only [List.mem_cons, List.not_mem_nil, or_false] at hp; rcases hp with rfl | rfl | rfl | rfl <;> rfl) (fun y hy hq => by
        have y1 := hq _ (.head _)
        have y2 := hq _ (.tail _ (.head _))
        have y3 := hq _ (.tail _ (.tail _ (.head _)))
        have y4 := hq _ (.tail _ (.tail _ (.tail _ (.head _))))
        dsimp only at y1 y2 y3 y4
        simp only [if_neg y1, if_neg y2, if_neg y3, if_neg y4, if_neg hy]
        rw [ovr_old (by intro p hp; simp only [List.mem_cons, List.not_mem_nil, or_false] at hp; rcases hp with rfl | rfl | rfl | rfl <;> assumption)]
        simp only [if_neg y1, if_neg y2, if_neg y3, if_neg y4])) ?_
      have hc' : c = 32 := code_of (by assumption) (by rfl)
      refine ⟨⟨hI, ?_, by dsimp only; omega, by dsimp only; omega, by dsimp only; omega⟩, by simp only [AllLt]; exact hA⟩
      rw [← hrun, hd, wsRun, if_pos hc']
    · rename Fr _ _ _ _ => F9
      rename News _ _ _ _ => N9
      unfold Halt
      refine turn_end (.inl rfl) ⟨_, _, 0, bump cs b, 0, n + 1, nt + 1, _, _, _⟩ F9 (fun p hp => N9 p (by
        simp only [List.cons_append, List.nil_append, List.mem_cons] at hp ⊢
        rcases hp with hp | hp | hp
        · exact .inr (.inr (.inr (.inl hp)))
        · exact .inl hp
        · exact .inr (.inr (.inr (.inr (.inr hp)))))) (fun p hp => by
        rcases List.mem_cons.mp hp with rfl | hp
        · exact Nat.ne_of_gt (by dsimp only; omega)
        · exact hne p (List.mem_cons_of_mem _ hp)) (mapL (by intro p hp; simp only [List.mem_cons, List.not_mem_nil, or_false] at hp; rcases hp with rfl | rfl | rfl | rfl <;> rfl) (fun y hy hq => by
        have y1 := hq _ (.head _)
        have y2 := hq _ (.tail _ (.head _))
        have y3 := hq _ (.tail _ (.tail _ (.head _)))
        have y4 := hq _ (.tail _ (.tail _ (.tail _ (.head _))))
        dsimp only at y1 y2 y3 y4
        simp only [if_neg y1, if_neg y2, if_neg y3, if_neg y4, if_neg hy]
        rw [ovr_old (by intro p hp; simp only [List.mem_cons, List.not_mem_nil, or_false] at hp; rcases hp with rfl | rfl | rfl | rfl <;> assumption)]
        simp only [if_neg y1, if_neg y2, if_neg y3, if_neg y4])) ?_
      have hc' : c = 9 := code_of (by assumption) (by rfl)
      have hc2 : c ≠ 32 := code_ne (by assumption) (by rfl)
      refine ⟨⟨?_, ?_, Int.le_refl _, by dsimp only; omega, bump_len hb0 hb1 hl⟩, by simp only [AllLt]; exact ⟨by omega, by omega, by omega, allLt_mono hA4 (by omega)⟩⟩
      · rw [bump_ge (by assumption)]; assumption
      · rw [← hrun, hd, wsRun, if_neg hc2, if_pos hc']
    · rename Fr _ _ _ _ => F9
      rename News _ _ _ _ => N9
      unfold Halt
      refine turn_end (.inl rfl) ⟨D, _, kk, bump cs b, 0, n + 1, nt + 1, _, _, _⟩ F9 N9 (fun p hp => by
        rcases List.mem_cons.mp hp with rfl | hp
        · exact hDI
        · exact hne p (List.mem_cons_of_mem _ hp)) (mapL (by intro p hp; simp only [List.mem_cons, List.not_mem_nil, or_false] at hp; rcases hp with rfl | rfl | rfl | rfl <;> rfl) (fun y hy hq => by
        have y1 := hq _ (.head _)
        have y2 := hq _ (.tail _ (.head _))
        have y3 := hq _ (.tail _ (.tail _ (.head _)))
        have y4 := hq _ (.tail _ (.tail _ (.tail _ (.head _))))
        dsimp only at y1 y2 y3 y4
        simp only [if_neg y1, if_neg y2, if_neg y3, if_neg y4, if_neg hy]
        rw [ovr_old (by intro p hp; simp only [List.mem_cons, List.not_mem_nil, or_false] at hp; rcases hp with rfl | rfl | rfl | rfl <;> assumption)]
        simp only [if_neg y1, if_neg y2, if_neg y3, if_neg y4])) ?_
      have hc' : c = 9 := code_of (by assumption) (by rfl)
      have hc2 : c ≠ 32 := code_ne (by assumption) (by rfl)
      refine ⟨⟨?_, ?_, Int.le_refl _, by dsimp only; omega, bump_len hb0 hb1 hl⟩, by simp only [AllLt]; exact hA⟩
      · rw [bump_lt (by omega)]; assumption
      · rw [← hrun, hd, wsRun, if_neg hc2, if_pos hc']
    · have hc' : c ≠ 9 := code_ne (l := .ofString "	") (by assumption) (by rfl)
      have hc2 : c ≠ 32 := code_ne (l := .ofString " ") (by assumption) (by rfl)
      rw [hd, wsRun, if_neg hc2, if_neg hc'] at hrun
      unfold Halt
      dsimp only
      have hlen : cs.length ≤ x.cps.size + 1 := by
        have : x.length = x.cps.size := rfl
        omega
      exact ⟨_, _, ⟨D, its, kk, cs, b, n, nt, tb, tn, tt⟩, some (.str ⟨#[c]⟩ u), rfl, ⟨hI, hrun.symm, hlen⟩, by simp only [AllLt]; exact hA, F2, fun p hp => N2 p (List.mem_cons_of_mem _ hp)⟩
  case kD => intro a tk hi; exact WsInv.done hi
  case done =>
    intro h' tk a u hi hA F2 N2
    obtain ⟨D, its, kk, cs, b, n, nt, tb, tn, tt⟩ := a
    obtain ⟨hI, hrun, hlen⟩ := hi
    dsimp only at hI hrun hlen N2 F2 hA
    simp only [AllLt] at hA
    have hx' : x.cps.size ≤ 200 := hx
    (repeat' (first | (k_unfold; (try dsimp only)) | (k_end; wrow_close) | with_reducible ((with_reducible show wpAny _ _ (call _ _) _ _ _); k_dflt (refine' tup_line ?F ?N ?m ?z ?_; (case F => k_asm); (case N => k_asm); (case m => k_mem); (case z => (rw [List.size_toArray]; have hz := IntsAre.length (by assumption); rw [sizeLine_eq]; omega)); intro Tq9 hq9 Fq9 Nq9 l1q9; (try k_lt l1q9); (try k_sweep))) | walk1 | (dsimp only; walk1) | (leave1; (try dsimp only)) | fail))
    refine ws_end hret hI ?_ hrun (by assumption) (by assumption)
    intro q hq
    have q1 := l1 q hq
    have q2 : @LT.lt Nat _ q.1 d' := q1
    have q3 : @LT.lt Nat _ d' x' := l2
    refine ⟨q2, ?_, ?_, ?_⟩ <;> omega
end
section
local macro_rules | `(tactic| walk_at "mine.d0") => `(tactic| skip)
set_option linter.unusedVariables false
set_option maxRecDepth 100000
set_option maxHeartbeats 4000000

theorem ws_mem {P : Params} {o : Ws} {news : List (Addr × Obj)} (h1 : (o.P, ({ cls := .type "tuple", data := .seq #[.ref o.T, .int o.b o.tb] } : Obj)) ∈ news) (h2 : (o.T, ({ cls := .type "tuple", data := .seq o.its.toArray } : Obj)) ∈ news) (h3 : (o.I, instObj 83 o.d) ∈ news)
    (h4 : (o.d, dictOf [{ hash := PyData.keyHash P (.ofString "raw"), key := .str (.ofString "raw") o.t1, val := .str o.x o.tx }, { hash := PyData.keyHash P (.ofString "n"), key := .str (.ofString "n") o.t2, val := .int o.n o.tn },
     { hash := PyData.keyHash P (.ofString "nt"), key := .str (.ofString "nt") o.t3, val := .int o.nt o.tt }, { hash := PyData.keyHash P (.ofString "norm"), key := .str (.ofString "norm") o.t4, val := .ref o.P },
     { hash := PyData.keyHash P (.ofString "is_simple"), key := .str (.ofString "is_simple") o.t5, val := .bool o.s }] 5) ∈ news) : ∀ p ∈ wsLed P o, p ∈ news := by
  intro p hp
  simp only [wsLed, List.mem_cons, List.not_mem_nil, or_false] at hp
  rcases hp with rfl | rfl | rfl | rfl <;> assumption
theorem norm_reads {h : Heap} {P T : Addr} {its : List Value} {cs : List Int} {b : Int} {tb : Tok} (hP : h.get? P = some { cls := .type "tuple", data := .seq #[.ref T, .int b tb] }) (hT : h.get? T = some { cls := .type "tuple", data := .seq its.toArray }) (hi : IntsAre its cs) :
    PySem.Reads h (.ref P) (.tuple [.tuple (cs.map .int), .int b]) [] := .tuple hP rfl rfl (.cons (.tuple hT rfl rfl ((ke_carried hi).reads h)) (.cons (.int _ _) .nil))
theorem norm_eqv (c1 c2 : List Int) (b1 b2 : Int) : PyData.eqv (.tuple [.tuple (c1.map .int), .int b1]) (.tuple [.tuple (c2.map .int), .int b2]) = decide (c1 = c2 ∧ b1 = b2) := by
  simp only [PyData.eqv, PyData.eqvAll, ked_eqvAll, Bool.and_true]
  by_cases h1 : c1 = c2 <;> by_cases h2 : b1 = b2 <;> simp [h1, h2]
theorem norm_shaped (cs : List Int) (b : Int) : SeqAt.shaped (.tuple [.tuple (cs.map .int), .int b]) = true := by
  simp [SeqAt.shaped, PyData.canLay0, PyData.canLayAll0, PyData.depth, PyData.depthAll, ke_canLayAll0, ke_depthAll]
section
variable {prog : Program} {w : World} {A : Around} {E : Value → Shared → Prop} {s : Shared} {h₀ : Heap} {L P1 T1 P2 T2 : Addr} {i1 i2 : List Value} {c1 c2 : List Int} {b1 b2 : Int} {tb1 tb2 : Tok} {news : List (Addr × Obj)} {Q : Value → Shared → Prop}
theorem norm_eq (N : News h₀ L s.heap news) (h1 : (P1, ({ cls := .type "tuple", data := .seq #[.ref T1, .int b1 tb1] } : Obj)) ∈ news) (h2 : (T1, ({ cls := .type "tuple", data := .seq i1.toArray } : Obj)) ∈ news) (hi1 : IntsAre i1 c1)
    (h3 : (P2, ({ cls := .type "tuple", data := .seq #[.ref T2, .int b2 tb2] } : Obj)) ∈ news) (h4 : (T2, ({ cls := .type "tuple", data := .seq i2.toArray } : Obj)) ∈ news) (hi2 : IntsAre i2 c2) (hu : A.units + 64 < cLine)
    (h : Q (.bool (decide (c1 = c2 ∧ b1 = b2))) s) : wpAny (model prog w) A (compareOp .Eq (.ref P1) (.ref P2)) Q E s :=
  eq_dataH (norm_reads (N _ h1).1 (N _ h2).1 hi1) (norm_reads (N _ h3).1 (N _ h4).1 hi2) (norm_shaped _ _) (norm_shaped _ _) hu (by rw [norm_eqv]; exact h)
theorem norm_ne (N : News h₀ L s.heap news) (h1 : (P1, ({ cls := .type "tuple", data := .seq #[.ref T1, .int b1 tb1] } : Obj)) ∈ news) (h2 : (T1, ({ cls := .type "tuple", data := .seq i1.toArray } : Obj)) ∈ news) (hi1 : IntsAre i1 c1)
    (h3 : (P2, ({ cls := .type "tuple", data := .seq #[.ref T2, .int b2 tb2] } : Obj)) ∈ news) (h4 : (T2, ({ cls := .type "tuple", data := .seq i2.toArray } : Obj)) ∈ news) (hi2 : IntsAre i2 c2) (hu : A.units + 64 < cLine)
    (h : Q (.bool (!decide (c1 = c2 ∧ b1 = b2))) s) : wpAny (model prog w) A (compareOp .NotEq (.ref P1) (.ref P2)) Q E s :=
  ne_dataH (norm_reads (N _ h1).1 (N _ h2).1 hi1) (norm_reads (N _ h3).1 (N _ h4).1 hi2) (norm_shaped _ _) (norm_shaped _ _) hu (by rw [norm_eqv]; exact h)
end
local macro_rules | `(tactic| walk_at "compareOp Eq ref ref") => `(tactic| walk_at "mine.1")
theorem tup_int {prog : Program} {w : World} {A : Around} {E : Value → Shared → Prop} {s : Shared} {h₀ : Heap} {L a : Addr} {news : List (Addr × Obj)} {value slice : PySem.Expr} {its : List Value} {cs : List Int} {k : Int} {u : Tok} {Q : Value → Shared → Prop} (N : News h₀ L s.heap news) (hm : (a, ({ cls := .type "tuple", data := .seq its.toArray } : Obj)) ∈ news) (hi : IntsAre its cs) (h0 : 0 ≤ k) (h1 : k < cs.length) (hz : cs.length ≤ 1000)
    (h : ∀ t, Q (.int (cs.getD k.toNat 0) t) s)
    (hs : subscripted slice false (.ref a) (.int k u) = operate [.ref a, .int k u] (getItem (.ref a) (.int k u)) := by with_unfolding_all rfl) (hg : ∀ r, letTemporaryGo value (.ref a) r = pure () := by intro _; with_unfolding_all rfl) :
    wpAny (model prog w) A (subscriptTail value slice (.ref a) (.int k u)) Q E s := by
  have hk : k.toNat < cs.length := by omega
  obtain ⟨t, ht⟩ := hi.get k.toNat cs[k.toNat] (by simp [hk])
  have hl := hi.length
  refine item_tupleL (j := k.toNat) ⟨_, (N _ hm).1, rfl, _, rfl⟩ (by omega) (by omega) ?_ (by simpa using ht) ?_ hs hg
  · unfold seqIndex?
    rw [if_pos (by simp; omega)]
    exact congrArg (fun z : Int => some z.toNat) (if_neg (by omega))
  · have := h t
    rwa [List.getD_eq_getElem?_getD, List.getElem?_eq_getElem hk] at this
local macro_rules | `(tactic| walk_at "pyIter ref") => `(tactic| walk_at "mine.1")
noncomputable def lvl (cs : List Int) (b nt : Int) : Int := b + 4 * (((List.range (cs.length - 4)).map fun (i : Nat) => ((4 + (i : Int)).fdiv 4) * cs.getD (4 + i) 0).sum + nt)
theorem con_equal {w : World} {p : Program} {loose : List PySem.Str} {mean : ExcName → Option Value} {mg mb : PySem.Str → Option Value} (dp un : Nat) (gd : Option (List Code)) (cn : PySem.Str) (cs : Scope) (a : Addr) (ccd : Value) (cl : List (PySem.Str × Addr)) (outer : List Env) (A₀ : Around) (base h₀ : Heap) (L : Addr) (m : PySem.Str → Option Value) (news : List (Addr × Obj)) (s : Shared) (o1 o2 : Ws)
    (Q E : Value → Shared → Prop) (B : Below A₀ base outer h₀) (F : Fr h₀ L s.heap m) (X : (K w.params).In h₀) (N : News h₀ L s.heap news) (T : Top p loose mean mg mb h₀) (hk : cs.kind = .function) (hd : dp + 8 < recursionLimit) (hu : un + 64 < cLine) (hm1 : ∀ p ∈ wsLed w.params o1, p ∈ news) (hm2 : ∀ p ∈ wsLed w.params o2, p ∈ news) (hi1 : IntsAre o1.its o1.cs) (hi2 : IntsAre o2.its o2.cs) (hu2 : un + 100 < cLine)
    (hret : ∀ h' tk' (t : Tok), Fr h₀ L h' m → News h₀ L h' news → Q (.bool (decide (o1.cs = o2.cs ∧ o1.b = o2.b))) { s with heap := h', toks := tk' }) :
    wpAny (model pw w) (ktrTop dp un gd cn cs L a ccd cl outer) (call (.ref 59) [.ref o1.I, .ref o2.I]) Q E s := by
  have N2 : News h₀ L s.heap (wsLed w.params o1 ++ (wsLed w.params o2 ++ news)) := fun p hp => N p (by
    rcases List.mem_append.mp hp with hp | hp
    · exact hm1 p hp
    · rcases List.mem_append.mp hp with hp | hp
      · exact hm2 p hp
      · exact hp)
  simp only [wsLed, List.cons_append, List.nil_append] at N2
  clear N hm1 hm2
  refine wpAny_call ?_
  k_dflt (refine' code_defL ?k1 ?k2 ?k3 ?k4 ?k5 ?kA ?kF ?kK ?k6 ?kp ?kb ?ks ?k7 ?k8 ?k9 ?kB ?_ ?c2 ?c3 ?c4 ?c5; (case kA => exact rfl); (case kF => exact rfl); (case kK => assumption); (case k1 => k_asm); (case k2 => k_asm); (case k3 => k_asm); (case k4 => k_asm); (case k5 => k_asm); (case k6 => k_is); (case kp => conv => lhs; whnf); (case kb => conv => lhs; whnf); (case ks => conv => lhs; whnf); (case k7 => k_is); (case k8 => ktr_room); (case k9 => exact BindsTo.of_eq rfl); (case c5 => decide); (case kB => exact locs rfl); (case c2 => exact rfl); (case c3 => exact rfl); (case c4 => exact rfl); k_whole; intro gq9 Lq9 hq9 FGq9 Fq9 Nq9 Bq9 Xq9 Tq9; (try dsimp only); (try k_fold))
  (repeat' (first | (k_unfold; (try dsimp only)) | (k_end; wrow_close) | with_reducible ((with_reducible show wpAny _ _ (subscriptTail _ _ (Value.ref _) (Value.int _ _)) _ _ _); (with_unfolding_all refine' tup_int ?N ?hm ?hi ?h0 ?h1 ?hz ?_ ?k6; (case N => k_asm); (case hm => k_mem); (case hi => assumption); (case h0 => omega); (case h1 => omega); (case hz => omega); (case k6 => with_unfolding_all rfl); k_whole; intro tIq9)) | with_reducible ((with_reducible show wpAny _ _ (call _ _) _ _ _); k_dflt (refine' ktm_lenK ?N ?hm ?hz rfl ?_; (case N => k_asm); (case hm => k_mem); (case hz => omega))) | walk1 | (dsimp only; walk1) | (leave1; (try dsimp only)) | fail))
  unfold Halt
  rename News _ _ _ _ => N9
  refine norm_eq N9 (.head _) (.tail _ (.head _)) hi1 (.tail _ (.tail _ (.tail _ (.tail _ (.head _))))) (.tail _ (.tail _ (.tail _ (.tail _ (.tail _ (.head _)))))) hi2 (by ke_room) ?_
  (repeat' (first | (k_unfold; (try dsimp only)) | (k_end; wrow_close) | with_reducible ((with_reducible show wpAny _ _ (subscriptTail _ _ (Value.ref _) (Value.int _ _)) _ _ _); (with_unfolding_all refine' tup_int ?N ?hm ?hi ?h0 ?h1 ?hz ?_ ?k6; (case N => k_asm); (case hm => k_mem); (case hi => assumption); (case h0 => omega); (case h1 => omega); (case hz => omega); (case k6 => with_unfolding_all rfl); k_whole; intro tIq9)) | with_reducible ((with_reducible show wpAny _ _ (call _ _) _ _ _); k_dflt (refine' ktm_lenK ?N ?hm ?hz rfl ?_; (case N => k_asm); (case hm => k_mem); (case hz => omega))) | walk1 | (dsimp only; walk1) | (leave1; (try dsimp only)) | fail))
  rename News _ _ _ _ => N9
  exact hret _ _ 0 (by assumption) (fun p hp => N9 p (by repeat (first | exact hp | apply List.mem_cons_of_mem)))
theorem con_indent {w : World} {p : Program} {loose : List PySem.Str} {mean : ExcName → Option Value} {mg mb : PySem.Str → Option Value} (dp un : Nat) (gd : Option (List Code)) (cn : PySem.Str) (cs : Scope) (a : Addr) (ccd : Value) (cl : List (PySem.Str × Addr)) (outer : List Env) (A₀ : Around) (base h₀ : Heap) (L : Addr) (m : PySem.Str → Option Value) (news : List (Addr × Obj)) (s : Shared) (o1 : Ws) (t4 : Tok)
    (Q E : Value → Shared → Prop) (B : Below A₀ base outer h₀) (F : Fr h₀ L s.heap m) (X : (K w.params).In h₀) (N : News h₀ L s.heap news) (T : Top p loose mean mg mb h₀) (hk : cs.kind = .function) (hd : dp + 8 < recursionLimit) (hu : un + 64 < cLine) (hm1 : ∀ p ∈ wsLed w.params o1, p ∈ news) (hi1 : IntsAre o1.its o1.cs) (hl : o1.cs.length ≤ 300)
    (hret : ∀ h' tk' (t : Tok), Fr h₀ L h' m → News h₀ L h' news → Q (.int (lvl o1.cs o1.b o1.nt) t) { s with heap := h', toks := tk' }) :
    wpAny (model pw w) (ktrTop dp un gd cn cs L a ccd cl outer) (call (.ref 52) [.ref o1.I, .int 4 t4]) Q E s := by
  have N2 : News h₀ L s.heap (wsLed w.params o1 ++ news) := fun p hp => N p (by
    rcases List.mem_append.mp hp with hp | hp
    · exact hm1 p hp
    · exact hp)
  simp only [wsLed, List.cons_append, List.nil_append] at N2
  clear N hm1
  have hz := hi1.length
  have hp4 : 0 ≤ (o1.cs.length : Int) := Int.natCast_nonneg _
  refine wpAny_call ?_
  k_dflt (refine' code_defL ?k1 ?k2 ?k3 ?k4 ?k5 ?kA ?kF ?kK ?k6 ?kp ?kb ?ks ?k7 ?k8 ?k9 ?kB ?_ ?c2 ?c3 ?c4 ?c5; (case kA => exact rfl); (case kF => exact rfl); (case kK => assumption); (case k1 => k_asm); (case k2 => k_asm); (case k3 => k_asm); (case k4 => k_asm); (case k5 => k_asm); (case k6 => k_is); (case kp => conv => lhs; whnf); (case kb => conv => lhs; whnf); (case ks => conv => lhs; whnf); (case k7 => k_is); (case k8 => ktr_room); (case k9 => exact BindsTo.of_eq rfl); (case c5 => decide); (case kB => exact locs rfl); (case c2 => exact rfl); (case c3 => exact rfl); (case c4 => exact rfl); k_whole; intro gq9 Lq9 hq9 FGq9 Fq9 Nq9 Bq9 Xq9 Tq9; (try dsimp only); (try k_fold))
  (repeat' (first | (k_unfold; (try dsimp only)) | (k_end; wrow_close) | with_reducible ((with_reducible show wpAny _ _ (subscriptTail _ _ (Value.ref _) (Value.int _ _)) _ _ _); (with_unfolding_all refine' tup_int ?N ?hm ?hi ?h0 ?h1 ?hz ?_ ?k6; (case N => k_asm); (case hm => k_mem); (case hi => assumption); (case h0 => omega); (case h1 => omega); (case hz => omega); (case k6 => with_unfolding_all rfl); k_whole; intro tIq9)) | with_reducible ((with_reducible show wpAny _ _ (call _ _) _ _ _); k_dflt (refine' ktm_lenK ?N ?hm ?hz rfl ?_; (case N => k_asm); (case hm => k_mem); (case hz => omega))) | walk1 | (dsimp only; walk1) | (leave1; (try dsimp only)) | fail))
  unfold Halt
  rename Fr _ _ _ _ => F9
  rename News _ _ _ _ => N9
  rename IsRange _ _ _ _ _ _ _ _ => R9
  refine' iter_range (σ := Int × Tok) F9 (by rfl) R9 (small_one (by omega) (by omega) (by omega) (by omega)) (rangeSize_nat _ _) (fun a => [(.ofString "il", .int a.1 a.2)]) (fun _ => _) (fun i a => a.1 = ((List.range i).map fun (j : Nat) => ((4 + (j : Int)).fdiv 4) * o1.cs.getD (4 + j) 0).sum) (fun a => a.1 = ((List.range (o1.cs.length - 4)).map fun (j : Nat) => ((4 + (j : Int)).fdiv 4) * o1.cs.getD (4 + j) 0).sum) ⟨0, _⟩ ?hm N9 (by rfl) ?turn ?hDn ?done
  case hm =>
    intro p hp
    simp only [List.mem_cons, List.not_mem_nil, or_false] at hp
    rcases hp with rfl
    rfl
  case hDn => intro a ha; rw [ha]; congr 3; omega
  case turn =>
    intro i t a h tk I oI hi ha F2 hne N2
    obtain ⟨il, til⟩ := a
    dsimp only at ha F2
    clear F9 N9 R9
    (repeat' (first | (k_unfold; (try dsimp only)) | (k_end; wrow_close) | with_reducible ((with_reducible show wpAny _ _ (subscriptTail _ _ (Value.ref _) (Value.int _ _)) _ _ _); (with_unfolding_all refine' tup_int ?N ?hm ?hi ?h0 ?h1 ?hz ?_ ?k6; (case N => k_asm); (case hm => k_mem); (case hi => assumption); (case h0 => omega); (case h1 => omega); (case hz => omega); (case k6 => with_unfolding_all rfl); k_whole; intro tIq9)) | with_reducible ((with_reducible show wpAny _ _ (call _ _) _ _ _); k_dflt (refine' ktm_lenK ?N ?hm ?hz rfl ?_; (case N => k_asm); (case hm => k_mem); (case hz => omega))) | walk1 | (dsimp only; walk1) | (leave1; (try dsimp only)) | fail))
    rename Fr _ _ _ _ => F9
    rename News _ _ _ _ => N9
    refine turn_end (.inl rfl) ⟨_, _⟩ F9 N9 hne (mapL (by intro p hp; simp only [List.mem_cons, List.not_mem_nil, or_false] at hp; rcases hp with rfl <;> rfl) (fun y hy hq => by
        have y0 := hq _ (.head _)
        dsimp only at y0
        simp only [if_neg y0, if_neg hy]
        try (rw [ovr_old (by intro p hp; simp only [List.mem_cons, List.not_mem_nil, or_false] at hp; rcases hp with rfl <;> assumption)])
        try (simp only [if_neg y0]))) ?_
    dsimp only
    rw [List.range_succ, List.map_append, List.map_cons, List.map_nil, List.sum_append, List.sum_cons, List.sum_nil, Int.add_zero, ← ha]
    rw [show (4 + (i : Int)).toNat = 4 + i by omega]
  case done =>
    intro a u h tk ha F2 N2
    obtain ⟨il, til⟩ := a
    dsimp only at ha F2
    clear F9 N9 R9
    (repeat' (first | (k_unfold; (try dsimp only)) | (k_end; wrow_close) | with_reducible ((with_reducible show wpAny _ _ (subscriptTail _ _ (Value.ref _) (Value.int _ _)) _ _ _); (with_unfolding_all refine' tup_int ?N ?hm ?hi ?h0 ?h1 ?hz ?_ ?k6; (case N => k_asm); (case hm => k_mem); (case hi => assumption); (case h0 => omega); (case h1 => omega); (case hz => omega); (case k6 => with_unfolding_all rfl); k_whole; intro tIq9)) | with_reducible ((with_reducible show wpAny _ _ (call _ _) _ _ _); k_dflt (refine' ktm_lenK ?N ?hm ?hz rfl ?_; (case N => k_asm); (case hm => k_mem); (case hz => omega))) | walk1 | (dsimp only; walk1) | (leave1; (try dsimp only)) | fail))
    rename News _ _ _ _ => N9
    unfold lvl at hret
    rw [← ha] at hret
    exact hret _ _ _ (by assumption) (fun p hp => N9 p (by repeat (first | exact hp | apply List.mem_cons_of_mem)))
end
section
set_option linter.unusedVariables false
set_option maxRecDepth 100000
set_option maxHeartbeats 4000000
local macro_rules | `(tactic| walk_at "pyIter ref") => `(tactic| walk_at "mine.1")
local macro_rules | `(tactic| walk_at "TurnT") => `(tactic| walk_at "mine.1")

noncomputable def nstep (c : List Int) (s : Int) : List Int := c.set (4 * s + 1).toNat (c.getD (4 * s + 1).toNat 0 + 1)
noncomputable def normC (ds : List Int) (b : Int) : List Int := ds.foldl nstep (List.replicate (4 * b + 2).toNat [0]).flatten
theorem nstep_len (c : List Int) (s : Int) : (nstep c s).length = c.length := by simp [nstep]
theorem nfold_len (ds : List Int) : ∀ c : List Int, (ds.foldl nstep c).length = c.length := by
  induction ds with
  | nil => intro c; rfl
  | cons d r ih => intro c; rw [List.foldl_cons, ih, nstep_len]
theorem con_norm {w : World} {p : Program} {loose : List PySem.Str} {mean : ExcName → Option Value} {mg mb : PySem.Str → Option Value} (dp un : Nat) (gd : Option (List Code)) (cn : PySem.Str) (cs : Scope) (a : Addr) (ccd : Value) (cl : List (PySem.Str × Addr)) (outer : List Env) (A₀ : Around) (base h₀ : Heap) (L : Addr) (m : PySem.Str → Option Value) (news : List (Addr × Obj)) (s : Shared) (l : Addr) (vs : List Value) (n : Nat) (ds : List Int) (b : Int)
    (Q E : Value → Shared → Prop) (B : Below A₀ base outer h₀) (F : Fr h₀ L s.heap m) (X : (K w.params).In h₀) (N : News h₀ L s.heap news) (T : Top p loose mean mg mb h₀) (hk : cs.kind = .function) (hd : dp + 8 < recursionLimit) (hu : un + 64 < cLine) (hm : (l, W.listOf vs.toArray n) ∈ news) (hi : IntsAre vs ds) (hlast : ds.getLast? = some b) (hb : ∀ d ∈ ds, 0 ≤ d ∧ d ≤ b) (h8 : b ≤ 40) (h9 : ds.length ≤ 40)
    (hret : ∀ P T its t h' tk', IntsAre its (normC ds b) → Fr h₀ L h' m → News h₀ L h' ((P, { cls := .type "tuple", data := .seq #[.ref T, .int 3 t] }) :: (T, { cls := .type "tuple", data := .seq its.toArray }) :: news) → Q (.ref P) { s with heap := h', toks := tk' }) :
    wpAny (model pw w) (ktrTop dp un gd cn cs L a ccd cl outer) (call (.ref 264) [.ref l]) Q E s := by
  have N2 : News h₀ L s.heap ((l, W.listOf vs.toArray n) :: news) := fun p hp => N p (by
    simp only [List.mem_cons] at hp
    rcases hp with rfl | hp
    · exact hm
    · exact hp)
  clear N
  have hz := hi.length
  have hb0 : 0 ≤ b := (hb b (List.mem_of_getLast? hlast)).1
  refine wpAny_call ?_
  k_dflt (refine' code_defL ?k1 ?k2 ?k3 ?k4 ?k5 ?kA ?kF ?kK ?k6 ?kp ?kb ?ks ?k7 ?k8 ?k9 ?kB ?_ ?c2 ?c3 ?c4 ?c5; (case kA => exact rfl); (case kF => exact rfl); (case kK => assumption); (case k1 => k_asm); (case k2 => k_asm); (case k3 => k_asm); (case k4 => k_asm); (case k5 => k_asm); (case k6 => k_is); (case kp => conv => lhs; whnf); (case kb => conv => lhs; whnf); (case ks => conv => lhs; whnf); (case k7 => k_is); (case k8 => ktr_room); (case k9 => exact BindsTo.of_eq rfl); (case c5 => decide); (case kB => exact locs rfl); (case c2 => exact rfl); (case c3 => exact rfl); (case c4 => exact rfl); k_whole; intro gq9 Lq9 hq9 FGq9 Fq9 Nq9 Bq9 Xq9 Tq9; (try dsimp only); (try k_fold))
  (repeat' (first | (k_unfold; (try dsimp only)) | (k_end; wrow_close) | with_reducible ((with_reducible show wpAny _ _ (call _ _) _ _ _); k_dflt (refine' tup_line ?F ?N ?m ?z ?_; (case F => k_asm); (case N => k_asm); (case m => k_mem); (case z => (rw [List.size_toArray]; have hz := IntsAre.length (by assumption); rw [sizeLine_eq]; omega)); intro Tq9 hq9 Fq9 Nq9 l1q9; (try k_lt l1q9); (try k_sweep))) | with_reducible ((with_reducible show wpAny _ _ (exec (PySem.Stmt.For _ _ _ _ _) _) _ _ _); (rename Fr _ _ _ _ => lFq9); (with_unfolding_all refine' For_invVF lFq9 ?k1 ?k2 ?_; (case k1 => exact rfl); (case k2 => exact rfl); k_whole)) | with_reducible ((with_reducible show wpAny _ _ (subscriptTail _ _ (Value.ref _) (Value.int _ _)) _ _ _); (with_unfolding_all refine' list_last ?N ?hm ?hi ?h0 ?h1 ?_ ?k6 ?k7; (case h0 => rfl); (case N => k_asm); (case hm => k_mem); (case hi => assumption); (case h1 => assumption); (case k6 => with_unfolding_all rfl); (case k7 => intro _; with_unfolding_all rfl); k_whole; intro tIq9)) | with_reducible ((with_reducible show wpAny _ _ (subscriptTail _ _ (Value.ref _) (Value.int _ _)) _ _ _); (with_unfolding_all refine' list_int ?N ?hm ?hi ?h0 ?h1 ?hz ?_ ?k6 ?k7; (case N => k_asm); (case hm => k_mem); (case hi => assumption); (case h0 => omega); (case h1 => omega); (case hz => omega); (case k6 => with_unfolding_all rfl); (case k7 => intro _; with_unfolding_all rfl); k_whole; intro tIq9)) | walk1 | (dsimp only; walk1) | (leave1; (try dsimp only)) | fail))
  unfold Halt
  rename Fr _ _ _ _ => F9
  rename News _ _ _ _ => N9
  have hfl : (List.replicate (4 * b + 2).toNat [(0 : Int)]).flatten.length = (4 * b + 2).toNat := by simp
  refine' iter_list (σ := List Value × List Int) F9 (by rfl) (News.isList N9 (by k_mem)) (fun _ => []) (fun a => (_, W.listOf a.1.toArray 0) :: _) (fun i a => IntsAre a.1 a.2 ∧ a.2 = (ds.take i).foldl nstep (List.replicate (4 * b + 2).toNat [0]).flatten) (fun a => IntsAre a.1 a.2 ∧ a.2 = normC ds b) ⟨_, (List.replicate (4 * b + 2).toNat [0]).flatten⟩ ?hsrc ?hm N9 ?h0 ?hL ?turn ?hDn ?done
  case hsrc => exact .inr ⟨_, fun i a _ => .tail _ (.tail _ (.head _))⟩
  case hm => intro p hp; cases hp
  case h0 => exact ⟨by assumption, rfl⟩
  case hL => exact Ne.symm (N9 _ (.tail _ (.tail _ (.head _)))).2.1
  case hDn => intro a ha; rw [List.take_of_length_le (by rw [List.size_toArray, hz]; omega)] at ha; exact ha
  case turn =>
    intro i v a h tk I oI hv ha F2 hne N2
    obtain ⟨its, cs⟩ := a
    obtain ⟨hI, hcs⟩ := ha
    dsimp only at hI hcs F2 N2 hne
    obtain ⟨t, hlt, rfl⟩ := ints_at hi hv
    have hmem : ds.getD i 0 ∈ ds := by rw [List.getD_eq_getElem?_getD, List.getElem?_eq_getElem hlt]; exact List.getElem_mem hlt
    have hbd := hb _ hmem
    have hcl : cs.length = (4 * b + 2).toNat := by rw [hcs, nfold_len, hfl]
    have htk := take_succ_getD hlt
    generalize ds.getD i 0 = d at *
    clear F9 N9
    have hDI : @Ne Nat _ I := hne _ List.mem_cons_self
    dsimp only at hDI
    (repeat' (first | (k_unfold; (try dsimp only)) | (k_end; wrow_close) | with_reducible ((with_reducible show wpAny _ _ (call _ _) _ _ _); k_dflt (refine' tup_line ?F ?N ?m ?z ?_; (case F => k_asm); (case N => k_asm); (case m => k_mem); (case z => (rw [List.size_toArray]; have hz := IntsAre.length (by assumption); rw [sizeLine_eq]; omega)); intro Tq9 hq9 Fq9 Nq9 l1q9; (try k_lt l1q9); (try k_sweep))) | with_reducible ((with_reducible show wpAny _ _ (exec (PySem.Stmt.For _ _ _ _ _) _) _ _ _); (rename Fr _ _ _ _ => lFq9); (with_unfolding_all refine' For_invVF lFq9 ?k1 ?k2 ?_; (case k1 => exact rfl); (case k2 => exact rfl); k_whole)) | with_reducible ((with_reducible show wpAny _ _ (subscriptTail _ _ (Value.ref _) (Value.int _ _)) _ _ _); (with_unfolding_all refine' list_last ?N ?hm ?hi ?h0 ?h1 ?_ ?k6 ?k7; (case h0 => rfl); (case N => k_asm); (case hm => k_mem); (case hi => assumption); (case h1 => assumption); (case k6 => with_unfolding_all rfl); (case k7 => intro _; with_unfolding_all rfl); k_whole; intro tIq9)) | with_reducible ((with_reducible show wpAny _ _ (subscriptTail _ _ (Value.ref _) (Value.int _ _)) _ _ _); (with_unfolding_all refine' list_int ?N ?hm ?hi ?h0 ?h1 ?hz ?_ ?k6 ?k7; (case N => k_asm); (case hm => k_mem); (case hi => assumption); (case h0 => omega); (case h1 => omega); (case hz => omega); (case k6 => with_unfolding_all rfl); (case k7 => intro _; with_unfolding_all rfl); k_whole; intro tIq9)) | walk1 | (dsimp only; walk1) | (leave1; (try dsimp only)) | fail))
    rename Fr _ _ _ _ => F9
    rename News _ _ _ _ => N9
    refine turn_end (.inl rfl) ⟨_, nstep cs d⟩ F9 N9 (ne_head hne) (by intro y hy; exact if_neg hy) ?_
    refine ⟨by assumption, ?_⟩
    dsimp only
    rw [htk, List.foldl_append, ← hcs]; rfl
  case done =>
    intro a u h tk ha F2 N2
    obtain ⟨its, cs⟩ := a
    obtain ⟨hI, hcs⟩ := ha
    dsimp only at hI hcs F2 N2
    have hcl : cs.length = (4 * b + 2).toNat := by rw [hcs, normC, nfold_len, hfl]
    clear F9 N9
    (repeat' (first | (k_unfold; (try dsimp only)) | (k_end; wrow_close) | with_reducible ((with_reducible show wpAny _ _ (call _ _) _ _ _); k_dflt (refine' tup_line ?F ?N ?m ?z ?_; (case F => k_asm); (case N => k_asm); (case m => k_mem); (case z => (rw [List.size_toArray]; have hz := IntsAre.length (by assumption); rw [sizeLine_eq]; omega)); intro Tq9 hq9 Fq9 Nq9 l1q9; (try k_lt l1q9); (try k_sweep))) | with_reducible ((with_reducible show wpAny _ _ (exec (PySem.Stmt.For _ _ _ _ _) _) _ _ _); (rename Fr _ _ _ _ => lFq9); (with_unfolding_all refine' For_invVF lFq9 ?k1 ?k2 ?_; (case k1 => exact rfl); (case k2 => exact rfl); k_whole)) | with_reducible ((with_reducible show wpAny _ _ (subscriptTail _ _ (Value.ref _) (Value.int _ _)) _ _ _); (with_unfolding_all refine' list_last ?N ?hm ?hi ?h0 ?h1 ?_ ?k6 ?k7; (case h0 => rfl); (case N => k_asm); (case hm => k_mem); (case hi => assumption); (case h1 => assumption); (case k6 => with_unfolding_all rfl); (case k7 => intro _; with_unfolding_all rfl); k_whole; intro tIq9)) | with_reducible ((with_reducible show wpAny _ _ (subscriptTail _ _ (Value.ref _) (Value.int _ _)) _ _ _); (with_unfolding_all refine' list_int ?N ?hm ?hi ?h0 ?h1 ?hz ?_ ?k6 ?k7; (case N => k_asm); (case hm => k_mem); (case hi => assumption); (case h0 => omega); (case h1 => omega); (case hz => omega); (case k6 => with_unfolding_all rfl); (case k7 => intro _; with_unfolding_all rfl); k_whole; intro tIq9)) | walk1 | (dsimp only; walk1) | (leave1; (try dsimp only)) | fail))
    rename News _ _ _ _ => N9
    exact hret _ _ its _ _ _ (hcs ▸ hI) (by assumption) (fun p hp => N9 p (by
      simp only [List.mem_cons] at hp ⊢
      rcases hp with hp | hp | hp
      · exact .inl hp
      · exact .inr (.inl hp)
      · exact .inr (.inr (.inr (.inr (.inr hp))))))
end
local macro_rules | `(tactic| walk_at "mine.3") => `(tactic| exact allNe_of (by assumption))
section
set_option linter.unusedVariables false
set_option maxRecDepth 100000
set_option maxHeartbeats 4000000
local macro_rules | `(tactic| walk_at "pyIter ref") => `(tactic| walk_at "mine.1")
local macro_rules | `(tactic| walk_at "TurnT") => `(tactic| walk_at "mine.1")
local macro_rules | `(tactic| walk_at "CompSrc") => `(tactic| walk_at "mine.1")
local macro_rules | `(tactic| walk_at "CompEnd") => `(tactic| walk_at "mine.1")
local macro_rules | `(tactic| walk_at "FinE") => `(tactic| walk_at "mine.1")
local macro_rules | `(tactic| k_all) => `(tactic| walk_at "mine.3")
theorem con_heaps {w : World} {p : Program} {loose : List PySem.Str} {mean : ExcName → Option Value} {mg mb : PySem.Str → Option Value} (dp un : Nat) (gd : Option (List Code)) (cn : PySem.Str) (cs : Scope) (a : Addr) (ccd : Value) (cl : List (PySem.Str × Addr)) (outer : List Env) (A₀ : Around) (base h₀ : Heap) (L : Addr) (m : PySem.Str → Option Value) (news : List (Addr × Obj)) (s : Shared) (l : Addr) (vs : List Value) (ns : List Int)
    (Q E : Value → Shared → Prop) (B : Below A₀ base outer h₀) (F : Fr h₀ L s.heap m) (X : (K w.params).In h₀) (N : News h₀ L s.heap news) (T : Top p loose mean mg mb h₀) (hk : cs.kind = .function) (hd : dp + 8 < recursionLimit) (hu : un + 64 < cLine) (hl : h₀.IsList l vs.toArray) (hi : IntsAre vs ns) (h9 : ns.length ≤ 63)
    (hret : ∀ D its hs h' tk', IntsAre its hs → hs.length = 4 → (∀ p ∈ news, @Ne Nat p.1 D) → Fr h₀ L h' m → News h₀ L h' ((D, W.listOf its.toArray 4) :: news) → Q (.ref D) { s with heap := h', toks := tk' }) :
    wpAny (model pw w) (ktrTop dp un gd cn cs L a ccd cl outer) (call (.ref 226) [.ref l]) Q E s := by
  have hz := hi.length
  refine wpAny_call ?_
  k_dflt (refine' code_defCL ?k1 ?k2 ?k3 ?k4 ?k5 ?kA ?kF ?kK ?k6 ?kp ?kb ?ks ?k7 ?k8 ?k9 ?kB ?kD ?_ ?c2 ?c3 ?c4; (case kA => exact rfl); (case kF => exact rfl); (case kK => assumption); (case k1 => k_asm); (case k2 => k_asm); (case k3 => k_asm); (case k4 => k_asm); (case k5 => k_asm); (case k6 => k_is); (case kp => conv => lhs; whnf); (case kb => conv => lhs; whnf); (case ks => conv => lhs; whnf); (case k7 => k_is); (case k8 => ktr_room); (case k9 => exact BindsTo.of_eq rfl); (case kB => exact rfl); (case kD => decide +kernel); (case c2 => exact rfl); (case c3 => exact rfl); (case c4 => exact rfl); k_whole; intro gq9 Lq9 hq9 tkq9 cellsq9 FGq9 Fq9 Nq9 Yq9 Bq9 Xq9 Tq9 l1q9; (have l0q9 := cells_off l1q9); (obtain ⟨l0q9, laq9, lbq9, lcq9, ldq9, leq9, lfq9, lgq9, lhq9, liq9, ljq9⟩ := l0q9); (have hYq9 := CellsAre.two Yq9; obtain ⟨o1q9, o2q9, hEq9, d1q9, d2q9⟩ := hYq9; subst hEq9; clear Yq9); (try simp only [List.cons_append, List.nil_append] at Nq9); (try (conv at Fq9 => arg 4; whnf)); (try (conv at d1q9 => rhs; arg 1; whnf)); (try (conv at d2q9 => rhs; arg 1; whnf)); (try dsimp only); (try k_fold))
  (repeat' (first | (k_unfold; (try dsimp only)) | (k_end; wrow_close) | with_reducible ((with_reducible show wpAny _ _ (subscriptTail _ _ (Value.ref _) (Value.ref _)) _ _ _); (with_unfolding_all refine' slice_intsS ?F ?N ?hl ?hi ?pl ?pu ?pt ?h0 ?hz ?_ ?k6 ?k7; (case F => k_asm); (case N => k_asm); (case hl => is_list); (case hi => assumption); (case pl => constructor); (case pu => constructor); (case pt => constructor); (case h0 => decide); (case hz => omega); (case k6 => with_unfolding_all rfl); (case k7 => intro _; with_unfolding_all rfl); k_whole); intro Dq9 wsq9 msq9 hq9 Fq9 Nq9 l1q9 hiq9 hzq9 heq9; (try k_lt l1q9); (try k_sweep)) | with_reducible ((with_reducible show wpAny _ _ (exec (PySem.Stmt.For _ _ _ _ _) _) _ _ _); (rename Fr _ _ _ _ => lFq9); (with_unfolding_all refine' For_invVF lFq9 ?k1 ?k2 ?_; (case k1 => exact rfl); (case k2 => exact rfl); k_whole)) | with_reducible ((with_reducible show wpAny _ _ (subscriptTail _ _ (Value.ref _) (Value.int _ _)) _ _ _); (with_unfolding_all refine' list_int ?N ?hm ?hi ?h0 ?h1 ?hz ?_ ?k6 ?k7; (case N => k_asm); (case hm => k_mem); (case hi => assumption); (case h0 => omega); (case h1 => omega); (case hz => omega); (case k6 => with_unfolding_all rfl); (case k7 => intro _; with_unfolding_all rfl); k_whole; intro tIq9)) | walk1 | (dsimp only; walk1) | (leave1; (try dsimp only)) | fail))
  unfold Halt
  rename Fr h₀ _ _ _ => FG
  rename Fr _ _ _ _ => F9
  rename News _ _ _ _ => N9
  rename IsRange _ _ _ _ _ _ _ _ => R9
  refine LCg.CompSrc.range (n := 4) (by rfl) F9 N9 R9 (by decide) (by decide) (by decide) (fun g => ?_)
  refine rest_inv 4 (fun i ys nw => nw = _ ∧ ∃ hs, IntsAre ys hs ∧ hs.length = i) ?turn ?fin 4 0 [] _ rfl ⟨rfl, [], .nil, rfl⟩
  case turn =>
    rintro i ys nw v I oI C oC D m₂ h tk E' hi4 ⟨rfl, hs, hI, hlen⟩ ⟨t, rfl⟩ h3 h4 h5 h6 h7 h8
    have h7' := h7
    simp only [LCg.Off3] at h7
    have hl5 : h.IsList l vs.toArray := (hl.at fun o e => FG.keep _ _ e).at fun o e => h5.keep _ _ e
    (repeat' (first | (k_unfold; (try dsimp only)) | (k_end; wrow_close) | with_reducible ((with_reducible show wpAny _ _ (subscriptTail _ _ (Value.ref _) (Value.ref _)) _ _ _); (with_unfolding_all refine' slice_intsS ?F ?N ?hl ?hi ?pl ?pu ?pt ?h0 ?hz ?_ ?k6 ?k7; (case F => k_asm); (case N => k_asm); (case hl => is_list); (case hi => assumption); (case pl => constructor); (case pu => constructor); (case pt => constructor); (case h0 => decide); (case hz => omega); (case k6 => with_unfolding_all rfl); (case k7 => intro _; with_unfolding_all rfl); k_whole); intro Dq9 wsq9 msq9 hq9 Fq9 Nq9 l1q9 hiq9 hzq9 heq9; (try k_lt l1q9); (try k_sweep)) | with_reducible ((with_reducible show wpAny _ _ (exec (PySem.Stmt.For _ _ _ _ _) _) _ _ _); (rename Fr _ _ _ _ => lFq9); (with_unfolding_all refine' For_invVF lFq9 ?k1 ?k2 ?_; (case k1 => exact rfl); (case k2 => exact rfl); k_whole)) | with_reducible ((with_reducible show wpAny _ _ (subscriptTail _ _ (Value.ref _) (Value.int _ _)) _ _ _); (with_unfolding_all refine' list_int ?N ?hm ?hi ?h0 ?h1 ?hz ?_ ?k6 ?k7; (case N => k_asm); (case hm => k_mem); (case hi => assumption); (case h0 => omega); (case h1 => omega); (case hz => omega); (case k6 => with_unfolding_all rfl); (case k7 => intro _; with_unfolding_all rfl); k_whole; intro tIq9)) | walk1 | (dsimp only; walk1) | (leave1; (try dsimp only)) | fail))
    unfold Halt
    rename Fr _ _ _ _ => F5
    rename News _ _ _ _ => N5
    exact LCg.CompEnd.intro F5 N5 _ (fun p hp => .tail _ hp) h7' trivial ⟨rfl, _, ints_snoc hI, by simp [hlen]⟩
  case fin =>
    rintro ys nw ⟨rfl, hs, hI, hlen⟩
    intro D h tk F3 N3 O3
    (repeat' (first | (k_unfold; (try dsimp only)) | (k_end; wrow_close) | with_reducible ((with_reducible show wpAny _ _ (subscriptTail _ _ (Value.ref _) (Value.ref _)) _ _ _); (with_unfolding_all refine' slice_intsS ?F ?N ?hl ?hi ?pl ?pu ?pt ?h0 ?hz ?_ ?k6 ?k7; (case F => k_asm); (case N => k_asm); (case hl => is_list); (case hi => assumption); (case pl => constructor); (case pu => constructor); (case pt => constructor); (case h0 => decide); (case hz => omega); (case k6 => with_unfolding_all rfl); (case k7 => intro _; with_unfolding_all rfl); k_whole); intro Dq9 wsq9 msq9 hq9 Fq9 Nq9 l1q9 hiq9 hzq9 heq9; (try k_lt l1q9); (try k_sweep)) | with_reducible ((with_reducible show wpAny _ _ (exec (PySem.Stmt.For _ _ _ _ _) _) _ _ _); (rename Fr _ _ _ _ => lFq9); (with_unfolding_all refine' For_invVF lFq9 ?k1 ?k2 ?_; (case k1 => exact rfl); (case k2 => exact rfl); k_whole)) | with_reducible ((with_reducible show wpAny _ _ (subscriptTail _ _ (Value.ref _) (Value.int _ _)) _ _ _); (with_unfolding_all refine' list_int ?N ?hm ?hi ?h0 ?h1 ?hz ?_ ?k6 ?k7; (case N => k_asm); (case hm => k_mem); (case hi => assumption); (case h0 => omega); (case h1 => omega); (case hz => omega); (case k6 => with_unfolding_all rfl); (case k7 => intro _; with_unfolding_all rfl); k_whole; intro tIq9)) | walk1 | (dsimp only; walk1) | (leave1; (try dsimp only)) | fail))
    rename News _ _ _ _ => N5
    have e4 : ys.length = 4 := by rw [hI.length, hlen]
    have e5 : LCg.lst ys = W.listOf ys.toArray 4 := by show W.listOf ys.toArray ys.length = _; rw [e4]
    rw [e5] at N5
    exact hret D ys hs _ _ hI hlen (off1_mem O3.2.2.2) (by assumption) (fun p hp => N5 p (by
      rcases List.mem_cons.mp hp with rfl | hp
      · exact .head _
      · exact .tail _ (.tail _ (.tail _ (.tail _ hp)))))
end
section
set_option linter.unusedVariables false
set_option maxRecDepth 100000
set_option maxHeartbeats 4000000

noncomputable def body (k : Nat) (raw : PySem.Str) : PySem.Str := ⟨(38 :: ((List.replicate k [97, 109, 112, 59]).flatten ++ raw.cps.toList ++ [59])).toArray⟩
noncomputable def raws : List PySem.Str := [.ofString "amp", .ofString "#xD", .ofString "#13", .ofString "#10", .ofString "#09", .ofString "#xA", .ofString "#x9"]
noncomputable def okT (k : Nat) (raw : PySem.Str) : Bool :=
  (Txt.replace (body k raw) (PySem.Str.ofString "&") (PySem.Str.ofString "&amp;") == body (k + 1) raw && (Builtin.Str.occurrences (body k raw) (PySem.Str.ofString "&") 0 (body k raw).length 1).isEmpty == false) && ((Builtin.Str.occurrences (body (k + 1) raw) (PySem.Str.ofString "<") 0 (body (k + 1) raw).length 1).isEmpty && (Builtin.Str.occurrences (body (k + 1) raw) (PySem.Str.ofString ">") 0 (body (k + 1) raw).length 1).isEmpty && (Builtin.Str.occurrences (body (k + 1) raw) (PySem.Str.ofString "\"") 0 (body (k + 1) raw).length 1).isEmpty && (Builtin.Str.occurrences (body (k + 1) raw) (PySem.Str.ofString "\r") 0 (body (k + 1) raw).length 1).isEmpty && (Builtin.Str.occurrences (body (k + 1) raw) (PySem.Str.ofString "\n") 0 (body (k + 1) raw).length 1).isEmpty && (Builtin.Str.occurrences (body (k + 1) raw) (PySem.Str.ofString "\t") 0 (body (k + 1) raw).length 1).isEmpty)
theorem okT_all : ((List.range 7).all fun k => raws.all fun r => okT k r) = true := by kernel_rfl
theorem okT_of {k : Nat} {raw : PySem.Str} (hk : k < 7) (hr : raw ∈ raws) : Txt.replace (body k raw) (PySem.Str.ofString "&") (PySem.Str.ofString "&amp;") = body (k + 1) raw ∧ (Builtin.Str.occurrences (body k raw) (PySem.Str.ofString "&") 0 (body k raw).length 1).isEmpty = false ∧ (Builtin.Str.occurrences (body (k + 1) raw) (PySem.Str.ofString "<") 0 (body (k + 1) raw).length 1).isEmpty = true ∧ (Builtin.Str.occurrences (body (k + 1) raw) (PySem.Str.ofString ">") 0 (body (k + 1) raw).length 1).isEmpty = true ∧ (Builtin.Str.occurrences (body (k + 1) raw) (PySem.Str.ofString "\"") 0 (body (k + 1) raw).length 1).isEmpty = true ∧ (Builtin.Str.occurrences (body (k + 1) raw) (PySem.Str.ofString "\r") 0 (body (k + 1) raw).length 1).isEmpty = true ∧ (Builtin.Str.occurrences (body (k + 1) raw) (PySem.Str.ofString "\n") 0 (body (k + 1) raw).length 1).isEmpty = true ∧ (Builtin.Str.occurrences (body (k + 1) raw) (PySem.Str.ofString "\t") 0 (body (k + 1) raw).length 1).isEmpty = true := by
  have h := List.all_eq_true.mp (List.all_eq_true.mp okT_all k (List.mem_range.mpr hk)) raw hr
  unfold okT at h
  simp only [Bool.and_eq_true, beq_iff_eq] at h
  obtain ⟨⟨h1, h2⟩, ⟨⟨⟨⟨h3, h4⟩, h5⟩, h6⟩, h7⟩, h8⟩ := h
  exact ⟨h1, h2, h3, h4, h5, h6, h7, h8⟩
theorem raw_len {raw : PySem.Str} (hr : raw ∈ raws) : raw.cps.toList.length = 3 := by
  have : ∀ r ∈ raws, r.cps.toList.length = 3 := by decide
  exact this raw hr
theorem body_len {k : Nat} {raw : PySem.Str} (hr : raw ∈ raws) : (body k raw).length = 4 * k + 5 := by
  have h := raw_len hr
  show (body k raw).cps.size = _
  simp [body] at h ⊢
  omega
noncomputable def fn5 (x : Int) : Addr := if x = 0 then 193 else if x = 1 then 214 else if x = 2 then 200 else if x = 3 then 207 else 221
/-- the signs of a hand, each with what stands for it -/
noncomputable def sgn5 (x : Int) : List (PySem.Str × PySem.Str) :=
  (.ofString "&", .ofString "amp") :: (if x = 1 then [(.ofString "\r", .ofString "#xD")] else if x = 2 then [(.ofString "\r", .ofString "#13"), (.ofString "\n", .ofString "#10"), (.ofString "\t", .ofString "#09")]
    else if x = 4 then [(.ofString "\r", .ofString "#xD"), (.ofString "\n", .ofString "#xA"), (.ofString "\t", .ofString "#x9")] else [])
inductive EscOk (x : Int) : PySem.Str → PySem.Str → Prop
  | body {k raw} : k < 7 → raw ∈ raws → EscOk x (body k raw) (body (k + 1) raw)
  | sign {c raw} : (c, raw) ∈ sgn5 x → EscOk x c (body 0 raw)
theorem con_esc {w : World} {p : Program} {loose : List PySem.Str} {mean : ExcName → Option Value} {mg mb : PySem.Str → Option Value} (dp un : Nat) (gd : Option (List Code)) (cn : PySem.Str) (cs : Scope) (a : Addr) (ccd : Value) (cl : List (PySem.Str × Addr)) (outer : List Env) (A₀ : Around) (base h₀ : Heap) (L : Addr) (m : PySem.Str → Option Value) (news : List (Addr × Obj)) (s : Shared) (x : Int) (c y : PySem.Str) (tx : Tok)
    (Q E : Value → Shared → Prop) (B : Below A₀ base outer h₀) (F : Fr h₀ L s.heap m) (X : (K w.params).In h₀) (N : News h₀ L s.heap news) (T : Top p loose mean mg mb h₀) (hk : cs.kind = .function) (hd : dp + 8 < recursionLimit) (hu : un + 64 < cLine) (hx : 0 ≤ x ∧ x < 5) (ok : EscOk x c y)
    (hret : ∀ t h' tk', Fr h₀ L h' m → News h₀ L h' news → Q (.str y t) { s with heap := h', toks := tk' }) :
    wpAny (model pw w) (ktrTop dp un gd cn cs L a ccd cl outer) (call (.ref (fn5 x)) [.str c tx]) Q E s := by
  obtain ⟨hx0, hx5⟩ := hx
  have : x = 0 ∨ x = 1 ∨ x = 2 ∨ x = 3 ∨ x = 4 := by omega
  rcases this with rfl | rfl | rfl | rfl | rfl
  · cases ok with
    | body k1 hr =>
      obtain ⟨o1, o2, o3, o4, o5, o6, o7, o8⟩ := okT_of k1 hr
      refine esc_cdata_amp _ _ _ _ _ _ _ _ _ _ _ _ _ _ _ _ _ _ _ _ _ B F X N T hk hd hu ?_ ?_ ?_ ?_ ?_ hret <;> first | assumption | (rw [body_len hr]; omega)
    | sign hs =>
      simp only [sgn5, List.mem_cons, List.not_mem_nil, or_false, Prod.mk.injEq, Int.reduceEq, if_true, if_false, reduceIte, if_neg, if_pos] at hs
      obtain ⟨rfl, rfl⟩ := hs
      refine esc_cdata_amp _ _ _ _ _ _ _ _ _ _ _ _ _ _ _ _ _ _ _ _ _ B F X N T hk hd hu ?_ ?_ ?_ ?_ ?_ hret <;> first | kernel_rfl | decide
  · cases ok with
    | body k1 hr =>
      obtain ⟨o1, o2, o3, o4, o5, o6, o7, o8⟩ := okT_of k1 hr
      refine esc_cdata14_amp _ _ _ _ _ _ _ _ _ _ _ _ _ _ _ _ _ _ _ _ _ B F X N T hk hd hu ?_ ?_ ?_ ?_ ?_ ?_ hret <;> first | assumption | (rw [body_len hr]; omega)
    | sign hs =>
      simp only [sgn5, List.mem_cons, List.not_mem_nil, or_false, Prod.mk.injEq, Int.reduceEq, if_true, if_false, reduceIte, if_neg, if_pos] at hs
      rcases hs with ⟨rfl, rfl⟩ | ⟨rfl, rfl⟩
      · refine esc_cdata14_amp _ _ _ _ _ _ _ _ _ _ _ _ _ _ _ _ _ _ _ _ _ B F X N T hk hd hu ?_ ?_ ?_ ?_ ?_ ?_ hret <;> first | kernel_rfl | decide
      · refine esc_cdata14_cr _ _ _ _ _ _ _ _ _ _ _ _ _ _ _ _ _ _ _ _ _ B F X N T hk hd hu ?_ ?_ ?_ ?_ ?_ ?_ hret <;> first | kernel_rfl | decide
  · cases ok with
    | body k1 hr =>
      obtain ⟨o1, o2, o3, o4, o5, o6, o7, o8⟩ := okT_of k1 hr
      refine esc_attrib_amp _ _ _ _ _ _ _ _ _ _ _ _ _ _ _ _ _ _ _ _ _ B F X N T hk hd hu ?_ ?_ ?_ ?_ ?_ ?_ ?_ ?_ ?_ hret <;> first | assumption | (rw [body_len hr]; omega)
    | sign hs =>
      simp only [sgn5, List.mem_cons, List.not_mem_nil, or_false, Prod.mk.injEq, Int.reduceEq, if_true, if_false, reduceIte, if_neg, if_pos] at hs
      rcases hs with ⟨rfl, rfl⟩ | ⟨rfl, rfl⟩ | ⟨rfl, rfl⟩ | ⟨rfl, rfl⟩
      · refine esc_attrib_amp _ _ _ _ _ _ _ _ _ _ _ _ _ _ _ _ _ _ _ _ _ B F X N T hk hd hu ?_ ?_ ?_ ?_ ?_ ?_ ?_ ?_ ?_ hret <;> first | kernel_rfl | decide
      · refine esc_attrib_cr _ _ _ _ _ _ _ _ _ _ _ _ _ _ _ _ _ _ _ _ _ B F X N T hk hd hu ?_ ?_ ?_ ?_ ?_ ?_ ?_ ?_ ?_ hret <;> first | kernel_rfl | decide
      · refine esc_attrib_lf _ _ _ _ _ _ _ _ _ _ _ _ _ _ _ _ _ _ _ _ _ B F X N T hk hd hu ?_ ?_ ?_ ?_ ?_ ?_ ?_ ?_ ?_ hret <;> first | kernel_rfl | decide
      · refine esc_attrib_tab _ _ _ _ _ _ _ _ _ _ _ _ _ _ _ _ _ _ _ _ _ B F X N T hk hd hu ?_ ?_ ?_ ?_ ?_ ?_ ?_ ?_ ?_ hret <;> first | kernel_rfl | decide
  · cases ok with
    | body k1 hr =>
      obtain ⟨o1, o2, o3, o4, o5, o6, o7, o8⟩ := okT_of k1 hr
      refine esc_html_amp _ _ _ _ _ _ _ _ _ _ _ _ _ _ _ _ _ _ _ _ _ B F X N T hk hd hu ?_ ?_ ?_ ?_ ?_ hret <;> first | assumption | (rw [body_len hr]; omega)
    | sign hs =>
      simp only [sgn5, List.mem_cons, List.not_mem_nil, or_false, Prod.mk.injEq, Int.reduceEq, if_true, if_false, reduceIte, if_neg, if_pos] at hs
      obtain ⟨rfl, rfl⟩ := hs
      refine esc_html_amp _ _ _ _ _ _ _ _ _ _ _ _ _ _ _ _ _ _ _ _ _ B F X N T hk hd hu ?_ ?_ ?_ ?_ ?_ hret <;> first | kernel_rfl | decide
  · cases ok with
    | body k1 hr =>
      obtain ⟨o1, o2, o3, o4, o5, o6, o7, o8⟩ := okT_of k1 hr
      refine esc_attrib14_amp _ _ _ _ _ _ _ _ _ _ _ _ _ _ _ _ _ _ _ _ _ B F X N T hk hd hu ?_ ?_ ?_ ?_ ?_ ?_ ?_ ?_ hret <;> first | assumption | (rw [body_len hr]; omega)
    | sign hs =>
      simp only [sgn5, List.mem_cons, List.not_mem_nil, or_false, Prod.mk.injEq, Int.reduceEq, if_true, if_false, reduceIte, if_neg, if_pos] at hs
      rcases hs with ⟨rfl, rfl⟩ | ⟨rfl, rfl⟩ | ⟨rfl, rfl⟩ | ⟨rfl, rfl⟩
      · refine esc_attrib14_amp _ _ _ _ _ _ _ _ _ _ _ _ _ _ _ _ _ _ _ _ _ B F X N T hk hd hu ?_ ?_ ?_ ?_ ?_ ?_ ?_ ?_ hret <;> first | kernel_rfl | decide
      · refine esc_attrib14_cr _ _ _ _ _ _ _ _ _ _ _ _ _ _ _ _ _ _ _ _ _ B F X N T hk hd hu ?_ ?_ ?_ ?_ ?_ ?_ ?_ ?_ hret <;> first | kernel_rfl | decide
      · refine esc_attrib14_lf _ _ _ _ _ _ _ _ _ _ _ _ _ _ _ _ _ _ _ _ _ B F X N T hk hd hu ?_ ?_ ?_ ?_ ?_ ?_ ?_ ?_ hret <;> first | kernel_rfl | decide
      · refine esc_attrib14_tab _ _ _ _ _ _ _ _ _ _ _ _ _ _ _ _ _ _ _ _ _ B F X N T hk hd hu ?_ ?_ ?_ ?_ ?_ ?_ ?_ ?_ hret <;> first | kernel_rfl | decide
end
section
set_option linter.unusedVariables false
set_option maxRecDepth 100000
set_option maxHeartbeats 4000000

noncomputable def lo (c : Nat) : Nat := if c = 68 then 100 else if c = 65 then 97 else if c = 8490 then 107 else if 119808 ≤ c then 107 else c
noncomputable def pageC : List Nat := [38, 97, 109, 112, 59, 35, 120, 68, 49, 51, 48, 57, 65] ++ (List.range 12).map fun (i : Nat) => letterCode (i : Int)
noncomputable def b3L (k : Int) : Option Value := ((mainE 37 398 xs11).find? fun e => Value.isInt k e.key).map (·.val)
theorem b3F_eq (k : Int) : b3F k = b3L k := by unfold b3F b3L findBy; rw [List.find?_toArray]
noncomputable def foldOk (c : Nat) : Bool := decide (c < 1114112) && !inB1 (c : Int) && (match b3L (c : Int) with | some (.str y _) => y == ⟨#[lo c]⟩ | some _ => false | none => Txt.lower ⟨#[c]⟩ == ⟨#[lo c]⟩)
theorem fold_all : pageC.all foldOk = true := by kernel_rfl
theorem fold_of {c : Nat} (h : c ∈ pageC) : c < 1114112 ∧ inB1 (c : Int) = false ∧ ((∃ t, b3F (c : Int) = some (.str ⟨#[lo c]⟩ t)) ∨ (b3F (c : Int) = none ∧ Txt.lower ⟨#[c]⟩ = ⟨#[lo c]⟩)) := by
  have h := List.all_eq_true.mp fold_all c h
  unfold foldOk at h
  rw [← b3F_eq] at h
  simp only [Bool.and_eq_true, decide_eq_true_eq, Bool.not_eq_true'] at h
  refine ⟨h.1.1, h.1.2, ?_⟩
  have h2 := h.2
  split at h2
  · rename_i y t e; exact .inl ⟨t, by rw [e, eq_of_beq h2]⟩
  · cases h2
  · rename_i e; exact .inr ⟨e, eq_of_beq h2⟩
theorem join_signs1 : ∀ l : List Nat, Txt.join (.ofString "") (l.map fun c => (⟨#[c]⟩ : PySem.Str)) = ⟨l.toArray⟩ := by
  intro l
  rw [eq_of_beq (join_plain_closes (.ofString "") (l.map fun c => (⟨#[c]⟩ : PySem.Str)))]
  induction l with
  | nil => rfl
  | cons a r ih =>
    cases r with
    | nil => rfl
    | cons b r =>
      show (⟨#[a]⟩ : PySem.Str) ++ .ofString "" ++ PySem.Str.join (.ofString "") ((b :: r).map fun c => (⟨#[c]⟩ : PySem.Str)) = _
      rw [ih]
      show (⟨#[a] ++ #[] ++ (b :: r).toArray⟩ : PySem.Str) = ⟨(a :: b :: r).toArray⟩
      simp
theorem con_fold {w : World} {p : Program} {loose : List PySem.Str} {mean : ExcName → Option Value} {mg mb : PySem.Str → Option Value} (dp un : Nat) (gd : Option (List Code)) (cn : PySem.Str) (cs : Scope) (a : Addr) (ccd : Value) (cl : List (PySem.Str × Addr)) (outer : List Env) (A₀ : Around) (base h₀ : Heap) (L : Addr) (m : PySem.Str → Option Value) (news : List (Addr × Obj)) (s : Shared) (c : Nat) (tx : Tok)
    (Q E : Value → Shared → Prop) (B : Below A₀ base outer h₀) (F : Fr h₀ L s.heap m) (X : (K w.params).In h₀) (N : News h₀ L s.heap news) (T : Top p loose mean mg mb h₀) (hk : cs.kind = .function) (hd : dp + 8 < recursionLimit) (hu : un + 64 < cLine) (hc : c ∈ pageC)
    (hret : ∀ t h' tk', Fr h₀ L h' m → News h₀ L h' news → Q (.str ⟨#[lo c]⟩ t) { s with heap := h', toks := tk' }) :
    wpAny (model pw w) (ktrTop dp un gd cn cs L a ccd cl outer) (call (.ref 179) [.str ⟨#[c]⟩ tx]) Q E s := by
  obtain ⟨h1, h2, ⟨t, h3⟩ | ⟨h3, h4⟩⟩ := fold_of hc
  · exact con_b3some _ _ _ _ _ _ _ _ _ _ _ _ _ _ _ _ _ _ _ _ _ _ B F X N T hk hd hu h1 h3 (hret _)
  · exact con_b3none _ _ _ _ _ _ _ _ _ _ _ _ _ _ _ _ _ _ _ _ _ B F X N T hk hd hu h1 h3 h4 hret
end
section
set_option linter.unusedVariables false
set_option maxRecDepth 100000
noncomputable def pileT (many : Int) (nm : PySem.Str) : PySem.Str := ⟨(38 :: ((List.replicate (many.toNat - 1) [97, 109, 112, 59]).flatten ++ nm.cps.toList ++ [59, 107])).toArray⟩
noncomputable def names7 : List PySem.Str := [.ofString "amp", .ofString "#xd", .ofString "#13", .ofString "#10", .ofString "#09", .ofString "#xa", .ofString "#x9"]
theorem names_raw {h : Int} {c nm : PySem.Str} (hm : (c, nm) ∈ namesOf h) : ∃ raw, raw ∈ raws ∧ (c, raw) ∈ sgn5 h ∧ raw.cps.toList.map lo = nm.cps.toList ∧ nm ∈ names7 := by
  unfold namesOf at hm
  rcases List.mem_cons.mp hm with e | hm
  · cases e; exact ⟨.ofString "amp", by decide, .head _, by decide, by decide⟩
  · unfold sgn5
    split at hm
    · rename_i h1
      rw [if_pos h1]
      rcases List.mem_singleton.mp hm with e
      cases e; exact ⟨.ofString "#xD", by decide, .tail _ (.head _), by decide, by decide⟩
    · rename_i h1
      rw [if_neg h1]
      split at hm
      · rename_i h2
        rw [if_pos h2]
        simp only [List.mem_cons, List.not_mem_nil, or_false, Prod.mk.injEq] at hm
        rcases hm with ⟨rfl, rfl⟩ | ⟨rfl, rfl⟩ | ⟨rfl, rfl⟩
        · exact ⟨.ofString "#13", by decide, .tail _ (.head _), by decide, by decide⟩
        · exact ⟨.ofString "#10", by decide, .tail _ (.tail _ (.head _)), by decide, by decide⟩
        · exact ⟨.ofString "#09", by decide, .tail _ (.tail _ (.tail _ (.head _))), by decide, by decide⟩
      · rename_i h2
        rw [if_neg h2]
        split at hm
        · rename_i h3
          rw [if_pos h3]
          simp only [List.mem_cons, List.not_mem_nil, or_false, Prod.mk.injEq] at hm
          rcases hm with ⟨rfl, rfl⟩ | ⟨rfl, rfl⟩ | ⟨rfl, rfl⟩
          · exact ⟨.ofString "#xD", by decide, .tail _ (.head _), by decide, by decide⟩
          · exact ⟨.ofString "#xA", by decide, .tail _ (.tail _ (.head _)), by decide, by decide⟩
          · exact ⟨.ofString "#x9", by decide, .tail _ (.tail _ (.tail _ (.head _))), by decide, by decide⟩
        · cases hm
noncomputable def restL (k : Nat) (raw : PySem.Str) : List Nat := (List.replicate k [97, 109, 112, 59]).flatten ++ raw.cps.toList ++ [59]
theorem restL_len (k : Nat) (raw : PySem.Str) : (restL k raw).length = 4 * k + raw.cps.toList.length + 1 := by
  simp [restL]; omega
theorem nm_len {nm : PySem.Str} (h : nm ∈ names7) : nm.length = 3 := by
  have : ∀ n ∈ names7, n.length = 3 := by decide
  exact this nm h
noncomputable def cutOk (k : Nat) (raw : PySem.Str) : Bool := (Txt.slice (body k raw) none (some 1)).cps.toList == [38] && (Txt.slice (body k raw) (some 1) none).cps.toList == restL k raw && (38 :: restL k raw).all (fun c => pageC.contains c)
theorem cut_all : ((List.range 8).all fun k => raws.all fun r => cutOk k r) = true := by kernel_rfl
theorem cut_of {k : Nat} {raw : PySem.Str} (hk : k < 8) (hr : raw ∈ raws) : (Txt.slice (body k raw) none (some 1)).cps.toList = [38] ∧ (Txt.slice (body k raw) (some 1) none).cps.toList = restL k raw ∧ ∀ c ∈ 38 :: restL k raw, c ∈ pageC := by
  have h := List.all_eq_true.mp (List.all_eq_true.mp cut_all k (List.mem_range.mpr hk)) raw hr
  unfold cutOk at h
  simp only [Bool.and_eq_true, beq_iff_eq] at h
  refine ⟨h.1.1, h.1.2, fun c hc => ?_⟩
  have := List.all_eq_true.mp h.2 c hc
  simpa using this
theorem letter_page {f : Int} (h0 : 0 ≤ f) (h1 : f < 12) : letterCode f ∈ pageC ∧ lo (letterCode f) = 107 := by
  have hf : f = ((f.toNat : Nat) : Int) := by omega
  rw [hf]
  have : ∀ n : Nat, n < 12 → lo (letterCode (n : Int)) = 107 := by decide
  exact ⟨List.mem_append_right _ (List.mem_map.mpr ⟨f.toNat, List.mem_range.mpr (by omega), rfl⟩), this _ (by omega)⟩
theorem page_list {x : PySem.Str} {c l k : Nat} {raw : PySem.Str} (hx : x = body k raw) (hk : k < 8) (hr : raw ∈ raws) :
    (Txt.slice x none (some 1) ++ (⟨#[c]⟩ : PySem.Str) ++ Txt.slice x (some 1) none ++ (⟨#[l]⟩ : PySem.Str)).cps.toList = 38 :: c :: (restL k raw ++ [l]) := by
  subst hx
  obtain ⟨h1, h2, _⟩ := cut_of hk hr
  show ((Txt.slice (body k raw) none (some 1)).cps ++ #[c] ++ (Txt.slice (body k raw) (some 1) none).cps ++ #[l]).toList = _
  simp [h1, h2]
theorem strs_snoc : ∀ {vs : List Value} {ns : List PySem.Str} {i : PySem.Str} {t : Tok}, StrsAre vs ns → StrsAre (vs ++ [.str i t]) (ns ++ [i]) := by
  intro vs ns i t h
  induction h with
  | nil => exact .cons i t .nil
  | cons j u _ ih => exact .cons j u ih
noncomputable def kept (l : List Nat) : List PySem.Str := (l.filter fun (c : Nat) => !inB1 (c : Int)).map fun c => ⟨#[lo c]⟩
theorem kept_no {l : List Nat} {c : Nat} (h : inB1 (c : Int) = true) : kept (l ++ [c]) = kept l := by simp [kept, h]
theorem kept_yes {l : List Nat} {c : Nat} (h : inB1 (c : Int) = false) : kept (l ++ [c]) = kept l ++ [⟨#[lo c]⟩] := by simp [kept, h]
theorem kept_all {l : List Nat} (h : ∀ c ∈ l, c ∈ pageC) : l.filter (fun c : Nat => !inB1 (c : Int)) = l := List.filter_eq_self.mpr fun c hc => by rw [(fold_of (h c hc)).2.1]; rfl
theorem rest_lo {k : Nat} {raw nm : PySem.Str} (h : raw.cps.toList.map lo = nm.cps.toList) : (restL k raw).map lo = (List.replicate k [97, 109, 112, 59]).flatten ++ nm.cps.toList ++ [59] := by
  unfold restL
  rw [List.map_append, List.map_append, h]
  congr 2
  induction k with
  | zero => rfl
  | succ k ih => rw [List.replicate_succ, List.flatten_cons, List.map_append, ih]; rfl
theorem kept_join {l : List Nat} {many : Int} {nm raw : PySem.Str} {c f : Nat} (hl : l = 38 :: c :: (restL (many.toNat - 1) raw ++ [f])) (hc : inB1 (c : Int) = true) (h1 : ∀ c ∈ 38 :: restL (many.toNat - 1) raw, c ∈ pageC) (h2 : f ∈ pageC) (h3 : lo f = 107) (h4 : raw.cps.toList.map lo = nm.cps.toList) :
    Txt.join (.ofString "") (kept l) = pileT many nm ∧ (kept l).length = 4 * (many.toNat - 1) + raw.cps.toList.length + 3 := by
  have e : l.filter (fun c : Nat => !inB1 (c : Int)) = 38 :: (restL (many.toNat - 1) raw ++ [f]) := by
    rw [hl, List.filter_cons_of_pos (by rw [(fold_of (h1 38 (.head _))).2.1]; rfl), List.filter_cons_of_neg (by simp [hc]), kept_all]
    intro x hx
    rcases List.mem_append.mp hx with hx | hx
    · exact h1 x (.tail _ hx)
    · rw [List.mem_singleton.mp hx]; exact h2
  unfold kept
  rw [e]
  constructor
  · have e2 : ((38 :: (restL (many.toNat - 1) raw ++ [f])).map fun c => (⟨#[lo c]⟩ : PySem.Str)) = ((38 :: (restL (many.toNat - 1) raw ++ [f])).map lo).map fun c => (⟨#[c]⟩ : PySem.Str) := by rw [List.map_map]; rfl
    rw [e2, join_signs1, List.map_cons, List.map_append, rest_lo h4, List.map_cons, List.map_nil, h3]
    unfold pileT
    simp [lo]
  · simp [restL]; omega
theorem kept_weight (l : List Nat) : ((kept l).map (·.length)).sum = (kept l).length := by
  unfold kept
  generalize l.filter (fun c : Nat => !inB1 (c : Int)) = r
  induction r with
  | nil => rfl
  | cons a r ih => rw [List.map_cons, List.map_cons, List.sum_cons, ih, List.length_cons]; show 1 + _ = _; omega
theorem told_eq {many : Int} {nm : PySem.Str} (h1 : 1 ≤ many) (h8 : many ≤ 8) : PySem.Str.ofString "&" ++ Txt.mul (PySem.Str.ofString "amp;") (many - 1) ++ nm ++ PySem.Str.ofString ";k" = pileT many nm := by
  have hmul : ∀ n : Nat, n < 8 → Txt.mul (PySem.Str.ofString "amp;") (n : Int) = ⟨(List.replicate n [97, 109, 112, 59]).flatten.toArray⟩ := by decide
  have e : many - 1 = ((many.toNat - 1 : Nat) : Int) := by omega
  rw [e, hmul _ (by omega)]
  show (⟨#[38] ++ (List.replicate (many.toNat - 1) [97, 109, 112, 59]).flatten.toArray ++ nm.cps ++ #[59, 107]⟩ : PySem.Str) = _
  unfold pileT
  congr 1
  apply Array.toList_inj.mp
  simp
end
section
set_option linter.unusedVariables false
set_option maxRecDepth 100000
set_option maxHeartbeats 4000000
local macro_rules | `(tactic| walk_at "pyIter ref") => `(tactic| walk_at "mine.1")
local macro_rules | `(tactic| walk_at "TurnT") => `(tactic| walk_at "mine.1")


theorem names_len {h : Int} {es : List SgN} (e : (es.map fun e => (e.2.1.1, e.2.2.1)) = namesOf h) : 1 ≤ es.length ∧ es.length ≤ 4 := by
  have := congrArg List.length e
  rw [List.length_map] at this
  rw [this]
  unfold namesOf
  split
  · decide
  · split
    · decide
    · split <;> decide
section
variable {prog : Program} {w : World} {A : Around} {E : Value → Shared → Prop} {s : Shared} {h₀ : Heap} {L a : Addr} {news : List (Addr × Obj)} {value slice : PySem.Expr} {es : List SgN} {n : Nat} {k : Int} {u : Tok} {Q : Value → Shared → Prop}
theorem names_size (N : News h₀ L s.heap news) (hm : (a, W.listOf (es.map fun e => Value.ref e.1).toArray n) ∈ news) (hl : 1 ≤ es.length ∧ es.length ≤ 4)
    (h : Q (.int es.length (s.toks + 1)) { s with toks := s.toks + 1 + 1 }) : wpAny (model prog w) A (call (.builtin "len") [.ref a]) Q E s := by
  have e : ((es.map fun e => Value.ref e.1).toArray.size : Int) = es.length := by simp
  refine len_list (N.isList hm) (by rw [e]; omega) ?_
  rw [e]; exact h
theorem names_mod {b : Int} {t : Tok} {Q : Value → Shared → Prop} (hl : 1 ≤ es.length ∧ es.length ≤ 4) (h : ∀ (j : Int) t', 0 ≤ j → j < es.length → j = b.fmod (es.length : Int) → ∀ k, Q (.int j t') { s with toks := k }) : wpAny (model prog w) A (binaryOp .Mod (.int b t) (.int (es.length : Int) u)) Q E s := by
  have hp : (0 : Int) < es.length := by omega
  exact mod_int' (by omega) (h (b.fmod es.length) s.toks (Int.fmod_nonneg_of_pos b hp) (Int.fmod_lt_of_pos b hp) rfl _)
theorem names_at (N : News h₀ L s.heap news) (hm : (a, W.listOf (es.map fun e => Value.ref e.1).toArray n) ∈ news) (hl : 1 ≤ es.length ∧ es.length ≤ 4) (ht : ∀ e ∈ es, tupOf e ∈ news) (h0 : 0 ≤ k) (h1 : k < es.length)
    (h : ∀ e, e ∈ es → News h₀ L s.heap ((e.1, { cls := .type "tuple", data := .seq #[.str e.2.1.1 e.2.1.2, .str e.2.2.1 e.2.2.2] }) :: news) → Q (.ref e.1) s)
    (hs : subscripted slice false (.ref a) (.int k u) = operate [.ref a, .int k u] (getItem (.ref a) (.int k u)) := by with_unfolding_all rfl) (hg : ∀ r, letTemporaryGo value (.ref a) r = pure () := by intro _; with_unfolding_all rfl) :
    wpAny (model prog w) A (subscriptTail value slice (.ref a) (.int k u)) Q E s := by
  have hk : k.toNat < es.length := by omega
  refine list_at N hm h0 (by omega) (x := .ref es[k.toNat].1) (by simp [hk]) (h es[k.toNat] (List.getElem_mem hk) fun p hp => ?_) hs hg
  rcases List.mem_cons.mp hp with rfl | hp
  · exact N _ (ht _ (List.getElem_mem hk))
  · exact N p hp
end
theorem fn5_cases (x : Int) : fn5 x = 193 ∨ fn5 x = 214 ∨ fn5 x = 200 ∨ fn5 x = 207 ∨ fn5 x = 221 := by
  unfold fn5
  repeat' split
  all_goals simp
theorem hand_at {prog : Program} {w : World} {A : Around} {E : Value → Shared → Prop} {s : Shared} {h₀ : Heap} {L a : Addr} {news : List (Addr × Obj)} {value slice : PySem.Expr} {k : Int} {u : Tok} {Q : Value → Shared → Prop} (N : News h₀ L s.heap news) (hm : (a, ({ cls := .type "tuple", data := .seq #[.ref 193, .ref 214, .ref 200, .ref 207, .ref 221] } : Obj)) ∈ news) (hk : 0 ≤ k ∧ k < 5)
    (h : Q (.ref (fn5 k)) s)
    (hs : subscripted slice false (.ref a) (.int k u) = operate [.ref a, .int k u] (getItem (.ref a) (.int k u)) := by with_unfolding_all rfl) (hg : ∀ r, letTemporaryGo value (.ref a) r = pure () := by intro _; with_unfolding_all rfl) :
    wpAny (model prog w) A (subscriptTail value slice (.ref a) (.int k u)) Q E s := by
  have : k = 0 ∨ k = 1 ∨ k = 2 ∨ k = 3 ∨ k = 4 := by omega
  rcases this with rfl | rfl | rfl | rfl | rfl
  · exact item_tupleL (j := 0) ⟨_, (N _ hm).1, rfl, _, rfl⟩ (by omega) (by omega) rfl rfl h hs hg
  · exact item_tupleL (j := 1) ⟨_, (N _ hm).1, rfl, _, rfl⟩ (by omega) (by omega) rfl rfl h hs hg
  · exact item_tupleL (j := 2) ⟨_, (N _ hm).1, rfl, _, rfl⟩ (by omega) (by omega) rfl rfl h hs hg
  · exact item_tupleL (j := 3) ⟨_, (N _ hm).1, rfl, _, rfl⟩ (by omega) (by omega) rfl rfl h hs hg
  · exact item_tupleL (j := 4) ⟨_, (N _ hm).1, rfl, _, rfl⟩ (by omega) (by omega) rfl rfl h hs hg
theorem con_escF {w : World} {p : Program} {loose : List PySem.Str} {mean : ExcName → Option Value} {mg mb : PySem.Str → Option Value} (dp un : Nat) (gd : Option (List Code)) (cn : PySem.Str) (cs : Scope) (a : Addr) (ccd : Value) (cl : List (PySem.Str × Addr)) (outer : List Env) (A₀ : Around) (base h₀ : Heap) (L : Addr) (m : PySem.Str → Option Value) (news : List (Addr × Obj)) (s : Shared) (x : Int) (f : Addr) (c y : PySem.Str) (tx : Tok)
    (Q E : Value → Shared → Prop) (B : Below A₀ base outer h₀) (F : Fr h₀ L s.heap m) (X : (K w.params).In h₀) (N : News h₀ L s.heap news) (T : Top p loose mean mg mb h₀) (hk : cs.kind = .function) (hd : dp + 8 < recursionLimit) (hu : un + 64 < cLine) (hf : fn5 x = f) (hx : 0 ≤ x ∧ x < 5) (ok : EscOk x c y)
    (hret : ∀ t h' tk', Fr h₀ L h' m → News h₀ L h' news → Q (.str y t) { s with heap := h', toks := tk' }) :
    wpAny (model pw w) (ktrTop dp un gd cn cs L a ccd cl outer) (call (.ref f) [.str c tx]) Q E s := by
  subst hf
  exact con_esc _ _ _ _ _ _ _ _ _ _ _ _ _ _ _ _ _ _ _ _ _ _ B F X N T hk hd hu hx ok hret
theorem halt233 {M : Model} {A : Around} {args : List Value} {Q E : Value → Shared → Prop} {s : Shared} (h : Halt (wpAny M A (call (.ref 233) args) Q E s)) : wpAny M A (call (.ref 233) args) Q E s := h
local macro_rules | `(tactic| walk_at "call ref") => `(tactic| (k_here; refine halt233 ?_))
local macro_rules | `(tactic| walk_at "CompSrcS") => `(tactic| walk_at "mine.1")
theorem con_inb1b {w : World} {p : Program} {loose : List PySem.Str} {mean : ExcName → Option Value} {mg mb : PySem.Str → Option Value} (dp un : Nat) (gd : Option (List Code)) (cn : PySem.Str) (cs : Scope) (a : Addr) (ccd : Value) (cl : List (PySem.Str × Addr)) (outer : List Env) (A₀ : Around) (base h₀ : Heap) (L : Addr) (m : PySem.Str → Option Value) (news : List (Addr × Obj)) (s : Shared) (c : Nat) (b : Bool) (tx : Tok)
    (Q E : Value → Shared → Prop) (B : Below A₀ base outer h₀) (F : Fr h₀ L s.heap m) (X : (K w.params).In h₀) (N : News h₀ L s.heap news) (T : Top p loose mean mg mb h₀) (hk : cs.kind = .function) (hd : dp + 8 < recursionLimit) (hu : un + 64 < cLine) (hx : c < 1114112) (hb : inB1 (c : Int) = b)
    (hret : ∀ h' tk', Fr h₀ L h' m → News h₀ L h' news → Q (.bool b) { s with heap := h', toks := tk' }) :
    wpAny (model pw w) (ktrTop dp un gd cn cs L a ccd cl outer) (call (.ref 133) [.str ⟨#[c]⟩ tx]) Q E s := by
  subst hb
  exact con_inb1 _ _ _ _ _ _ _ _ _ _ _ _ _ _ _ _ _ _ _ _ B F X N T hk hd hu hx hret
local macro_rules | `(tactic| walk_at "CompSrc") => `(tactic| walk_at "mine.1")
local macro_rules | `(tactic| walk_at "CompEnd") => `(tactic| walk_at "mine.1")
local macro_rules | `(tactic| walk_at "FinE") => `(tactic| walk_at "mine.1")
theorem con_pile {w : World} {p : Program} {loose : List PySem.Str} {mean : ExcName → Option Value} {mg mb : PySem.Str → Option Value} (dp un : Nat) (gd : Option (List Code)) (cn : PySem.Str) (cs : Scope) (a : Addr) (ccd : Value) (cl : List (PySem.Str × Addr)) (outer : List Env) (A₀ : Around) (base h₀ : Heap) (L : Addr) (m : PySem.Str → Option Value) (news : List (Addr × Obj)) (s : Shared) (many heap : Int) (tm th : Tok)
    (Q E : Value → Shared → Prop) (B : Below A₀ base outer h₀) (F : Fr h₀ L s.heap m) (X : (K w.params).In h₀) (N : News h₀ L s.heap news) (T : Top p loose mean mg mb h₀) (hk : cs.kind = .function) (hd : dp + 8 < recursionLimit) (hu : un + 64 < cLine) (hm : 1 ≤ many) (hm8 : many ≤ 8) (hd2 : dp + 20 < recursionLimit) (hu2 : un + 120 < cLine)
    (hret : ∀ T y nm t1 t2 h' tk', nm ∈ names7 → y = pileT many nm → (∀ p ∈ news, @LT.lt Nat _ p.1 T) → Fr h₀ L h' m → News h₀ L h' ((T, { cls := .type "tuple", data := .seq #[.str y t1, .str y t2] }) :: news) → Q (.ref T) { s with heap := h', toks := tk' }) :
    wpAny (model pw w) (ktrTop dp un gd cn cs L a ccd cl outer) (call (.ref 252) [.int many tm, .int heap th]) Q E s := by
  have hf0 : 0 ≤ heap.fmod 5 := Int.fmod_nonneg_of_pos _ (by decide)
  have hf1 : heap.fmod 5 < 5 := Int.fmod_lt_of_pos _ (by decide)
  have hg0 : 0 ≤ (heap.fdiv 20).fmod 12 := Int.fmod_nonneg_of_pos _ (by decide)
  have hg1 : (heap.fdiv 20).fmod 12 < 12 := Int.fmod_lt_of_pos _ (by decide)
  refine wpAny_call ?_
  k_dflt (refine' code_defL ?k1 ?k2 ?k3 ?k4 ?k5 ?kA ?kF ?kK ?k6 ?kp ?kb ?ks ?k7 ?k8 ?k9 ?kB ?_ ?c2 ?c3 ?c4 ?c5; (case kA => exact rfl); (case kF => exact rfl); (case kK => assumption); (case k1 => k_asm); (case k2 => k_asm); (case k3 => k_asm); (case k4 => k_asm); (case k5 => k_asm); (case k6 => k_is); (case kp => conv => lhs; whnf); (case kb => conv => lhs; whnf); (case ks => conv => lhs; whnf); (case k7 => k_is); (case k8 => ktr_room); (case k9 => exact BindsTo.of_eq rfl); (case c5 => decide); (case kB => exact locs rfl); (case c2 => exact rfl); (case c3 => exact rfl); (case c4 => exact rfl); k_whole; intro gq9 Lq9 hq9 FGq9 Fq9 Nq9 Bq9 Xq9 Tq9; (try dsimp only); (try k_fold))
  (repeat' (first | (k_unfold; (try dsimp only)) | (k_end; wrow_close) | ((with_reducible show wpAny _ _ (call _ _) _ _ _); k_dflt (refine join_is (News.isList (by k_asm) (by k_mem)) (by assumption) (by assumption) (by assumption) ?_); intro tq9 kq9) | ((with_reducible show wpAny _ _ (call (Value.ref _) _) _ _ _); k_dflt (refine' con_fold _ _ _ _ _ _ _ _ _ _ _ _ _ _ _ _ _ _ _ _ ?kB ?kF ?kX ?kN ?kT ?kk ?kd ?ku ?e1 ?_; (case kB => k_asm); (case kF => k_asm); (case kX => k_asm); (case kN => k_asm); (case kT => k_asm); (case kk => first | assumption | rfl); (case kd => ktr_room); (case ku => ke_room); (case e1 => assumption)); intro tq9 hq9 tkq9 Fq9 Nq9; (try k_sweep)) | ((with_reducible show wpAny _ _ (call (Value.ref _) _) _ _ _); k_dflt (refine' con_inb1b _ _ _ _ _ _ _ _ _ _ _ _ _ _ _ _ _ _ _ _ _ ?kB ?kF ?kX ?kN ?kT ?kk ?kd ?ku ?e1 ?e2 ?_; (case kB => k_asm); (case kF => k_asm); (case kX => k_asm); (case kN => k_asm); (case kT => k_asm); (case kk => first | assumption | rfl); (case kd => ktr_room); (case ku => ke_room); (case e1 => assumption); (case e2 => assumption)); intro hq9 tkq9 Fq9 Nq9; (try k_sweep)) | ((with_reducible show wpAny _ _ (eval (PySem.Expr.ListComp _ _ _ _ ) _) _ _ _); k_dflt (refine ListComp_TS (F₀ := by k_asm) (by with_unfolding_all rfl) (by decide) (by rfl) (by decide) (by rfl) ?_)) | ((with_reducible show wpAny _ _ (callWith _ (Value.ref (fn5 _)) _ _ _) _ _ _); refine halt ?_) | ((with_reducible show wpAny _ _ (call (Value.ref _) _) _ _ _); k_dflt (refine' con_letter _ _ _ _ _ _ _ _ _ _ _ _ _ _ _ _ _ _ _ _ ?kB ?kF ?kX ?kN ?kT ?kk ?kd ?ku ?e1 ?e2 ?_; (case kB => k_asm); (case kF => k_asm); (case kX => k_asm); (case kN => k_asm); (case kT => k_asm); (case kk => first | assumption | rfl); (case kd => ktr_room); (case ku => ke_room); (case e1 => assumption); (case e2 => assumption)); intro tq9 hq9 tkq9 Fq9 Nq9; (try k_sweep)) | ((with_reducible show wpAny _ _ (call (Value.ref _) _) _ _ _); k_dflt (refine' con_escF _ _ _ _ _ _ _ _ _ _ _ _ _ _ _ _ _ _ _ _ _ _ _ ?kB ?kF ?kX ?kN ?kT ?kk ?kd ?ku ?e0 ?e1 ?e2 ?_; (case kB => k_asm); (case kF => k_asm); (case kX => k_asm); (case kN => k_asm); (case kT => k_asm); (case kk => first | assumption | rfl); (case kd => ktr_room); (case ku => ke_room); (case e0 => assumption); (case e1 => assumption); (case e2 => assumption)); intro tq9 hq9 tkq9 Fq9 Nq9; (try k_sweep)) | ((with_reducible show wpAny _ _ (call (Value.ref _) _) _ _ _); k_dflt (refine' con_names _ _ _ _ _ _ _ _ _ _ _ _ _ _ _ _ _ _ _ _ ?kB ?kF ?kX ?kN ?kT ?kk ?kd ?ku ?e1 ?e2 ?_; (case kB => k_asm); (case kF => k_asm); (case kX => k_asm); (case kN => k_asm); (case kT => k_asm); (case kk => first | assumption | rfl); (case kd => ktr_room); (case ku => ke_room); (case e1 => assumption); (case e2 => assumption)); intro Dq9 esq9 nq9 hq9 tkq9 hesq9 Fq9 Nq9; (try k_sweep); have hnl := names_len hesq9) | ((with_reducible show wpAny _ _ (subscriptTail _ _ (Value.ref _) (Value.int _ _)) _ _ _); (with_unfolding_all refine' hand_at ?N ?hm ?hk ?_ ?k6 ?k7; (case N => k_asm); (case hm => k_mem); (case hk => assumption); (case k6 => with_unfolding_all rfl); (case k7 => intro _; with_unfolding_all rfl); k_whole)) | ((with_reducible show wpAny _ _ (subscriptTail _ _ (Value.ref _) (Value.int _ _)) _ _ _); (with_unfolding_all refine' names_at ?N ?hm ?hl ?ht ?h0 ?h1 ?_ ?k6 ?k7; (case N => k_asm); (case hm => k_mem); (case hl => assumption); (case ht => (intro e9q9 he9q9; simp only [List.mem_cons, List.mem_append, List.mem_map]; first | exact .inr (.inl ⟨e9q9, he9q9, rfl⟩) | exact .inl ⟨e9q9, he9q9, rfl⟩)); (case h0 => assumption); (case h1 => assumption); (case k6 => with_unfolding_all rfl); (case k7 => intro _; with_unfolding_all rfl); k_whole); intro eq9 heq9 Nq9) | ((with_reducible show wpAny _ _ (binaryOp Operator.Mod _ (Value.int (Nat.cast (List.length _)) _)) _ _ _); k_dflt (refine names_mod (by assumption) ?_); intro jq9 tq9 hj0q9 hj1q9 hj2q9 kq9) | ((with_reducible show wpAny _ _ (call _ _) _ _ _); k_dflt (refine' names_size ?N ?hm ?hl ?_; (case N => k_asm); (case hm => k_mem); (case hl => assumption))) | ((with_reducible show wpAny _ _ (exec (PySem.Stmt.For _ _ _ _ _) _) _ _ _); (rename Fr _ _ _ _ => lFq9); (with_unfolding_all refine' For_invVF lFq9 ?k1 ?k2 ?_; (case k1 => exact rfl); (case k2 => exact rfl); k_whole)) | walk1 | (dsimp only; walk1) | (leave1; (try dsimp only)) | fail))
  unfold Halt
  rename Fr _ _ _ _ => F9
  rename News _ _ _ _ => N9
  rename IsRange _ _ _ _ _ _ _ _ => R9
  rename SgN => e9
  rename List SgN => es9
  rename List.map _ _ = namesOf _ => hes9
  rename _ ∈ es9 => he9
  obtain ⟨eA, ⟨c, tc⟩, ⟨nm, tn⟩⟩ := e9
  have hsn : (c, nm) ∈ namesOf (heap.fmod 5) := hes9 ▸ List.mem_map.mpr ⟨_, he9, rfl⟩
  obtain ⟨raw, hraw, hsgn, hlo, hnm⟩ := names_raw hsn
  have N3 : News _ _ _ (_ :: news) := fun p hp => N9 p (.tail _ (.tail _ (List.mem_append_right _ hp)))
  dsimp only at F9
  clear N9 hes9 he9 hsn
  refine' iter_range (σ := PySem.Str × Tok × Int × Tok) F9 (by rfl) R9 (small_one (by omega) (by omega) (by omega) (by omega)) (rangeSize_nat _ _) (fun a => [(.ofString "text", .str a.1 a.2.1), (.ofString "hand", .int a.2.2.1 a.2.2.2)]) (fun _ => _)
    (fun i a => (0 ≤ a.2.2.1 ∧ a.2.2.1 < 5) ∧ ((i = 0 ∧ a.1 = c ∧ a.2.2.1 = heap.fmod 5) ∨ ∃ k, i = k + 1 ∧ a.1 = body k raw)) (fun a => a.1 = body (many.toNat - 1) raw) ⟨c, tc, heap.fmod 5, _⟩ ?hm N3 ?h0 ?turn ?hDn ?done
  case hm =>
    intro p hp
    simp only [List.mem_cons, List.not_mem_nil, or_false] at hp
    rcases hp with rfl | rfl <;> rfl
  case h0 => exact ⟨⟨hf0, hf1⟩, .inl ⟨rfl, rfl, rfl⟩⟩
  case hDn =>
    rintro a ⟨_, ⟨h, _⟩ | ⟨k, h, e⟩⟩
    · omega
    · rw [e]; congr 1; omega
  case turn =>
    intro i t a h tk I oI hi ha F2 hne N2
    obtain ⟨x, tx, hd5, th5⟩ := a
    obtain ⟨hh5, hx⟩ := ha
    dsimp only at hh5 hx F2
    have ok : EscOk hd5 x (body i raw) := by
      rcases hx with ⟨rfl, rfl, rfl⟩ | ⟨k, rfl, rfl⟩
      · exact .sign hsgn
      · exact .body (by omega) hraw
    clear F9 N3 R9
    (repeat' (first | (k_unfold; (try dsimp only)) | (k_end; wrow_close) | ((with_reducible show wpAny _ _ (call _ _) _ _ _); k_dflt (refine join_is (News.isList (by k_asm) (by k_mem)) (by assumption) (by assumption) (by assumption) ?_); intro tq9 kq9) | ((with_reducible show wpAny _ _ (call (Value.ref _) _) _ _ _); k_dflt (refine' con_fold _ _ _ _ _ _ _ _ _ _ _ _ _ _ _ _ _ _ _ _ ?kB ?kF ?kX ?kN ?kT ?kk ?kd ?ku ?e1 ?_; (case kB => k_asm); (case kF => k_asm); (case kX => k_asm); (case kN => k_asm); (case kT => k_asm); (case kk => first | assumption | rfl); (case kd => ktr_room); (case ku => ke_room); (case e1 => assumption)); intro tq9 hq9 tkq9 Fq9 Nq9; (try k_sweep)) | ((with_reducible show wpAny _ _ (call (Value.ref _) _) _ _ _); k_dflt (refine' con_inb1b _ _ _ _ _ _ _ _ _ _ _ _ _ _ _ _ _ _ _ _ _ ?kB ?kF ?kX ?kN ?kT ?kk ?kd ?ku ?e1 ?e2 ?_; (case kB => k_asm); (case kF => k_asm); (case kX => k_asm); (case kN => k_asm); (case kT => k_asm); (case kk => first | assumption | rfl); (case kd => ktr_room); (case ku => ke_room); (case e1 => assumption); (case e2 => assumption)); intro hq9 tkq9 Fq9 Nq9; (try k_sweep)) | ((with_reducible show wpAny _ _ (eval (PySem.Expr.ListComp _ _ _ _ ) _) _ _ _); k_dflt (refine ListComp_TS (F₀ := by k_asm) (by with_unfolding_all rfl) (by decide) (by rfl) (by decide) (by rfl) ?_)) | ((with_reducible show wpAny _ _ (callWith _ (Value.ref (fn5 _)) _ _ _) _ _ _); refine halt ?_) | ((with_reducible show wpAny _ _ (call (Value.ref _) _) _ _ _); k_dflt (refine' con_letter _ _ _ _ _ _ _ _ _ _ _ _ _ _ _ _ _ _ _ _ ?kB ?kF ?kX ?kN ?kT ?kk ?kd ?ku ?e1 ?e2 ?_; (case kB => k_asm); (case kF => k_asm); (case kX => k_asm); (case kN => k_asm); (case kT => k_asm); (case kk => first | assumption | rfl); (case kd => ktr_room); (case ku => ke_room); (case e1 => assumption); (case e2 => assumption)); intro tq9 hq9 tkq9 Fq9 Nq9; (try k_sweep)) | ((with_reducible show wpAny _ _ (call (Value.ref _) _) _ _ _); k_dflt (refine' con_escF _ _ _ _ _ _ _ _ _ _ _ _ _ _ _ _ _ _ _ _ _ _ _ ?kB ?kF ?kX ?kN ?kT ?kk ?kd ?ku ?e0 ?e1 ?e2 ?_; (case kB => k_asm); (case kF => k_asm); (case kX => k_asm); (case kN => k_asm); (case kT => k_asm); (case kk => first | assumption | rfl); (case kd => ktr_room); (case ku => ke_room); (case e0 => assumption); (case e1 => assumption); (case e2 => assumption)); intro tq9 hq9 tkq9 Fq9 Nq9; (try k_sweep)) | ((with_reducible show wpAny _ _ (call (Value.ref _) _) _ _ _); k_dflt (refine' con_names _ _ _ _ _ _ _ _ _ _ _ _ _ _ _ _ _ _ _ _ ?kB ?kF ?kX ?kN ?kT ?kk ?kd ?ku ?e1 ?e2 ?_; (case kB => k_asm); (case kF => k_asm); (case kX => k_asm); (case kN => k_asm); (case kT => k_asm); (case kk => first | assumption | rfl); (case kd => ktr_room); (case ku => ke_room); (case e1 => assumption); (case e2 => assumption)); intro Dq9 esq9 nq9 hq9 tkq9 hesq9 Fq9 Nq9; (try k_sweep); have hnl := names_len hesq9) | ((with_reducible show wpAny _ _ (subscriptTail _ _ (Value.ref _) (Value.int _ _)) _ _ _); (with_unfolding_all refine' hand_at ?N ?hm ?hk ?_ ?k6 ?k7; (case N => k_asm); (case hm => k_mem); (case hk => assumption); (case k6 => with_unfolding_all rfl); (case k7 => intro _; with_unfolding_all rfl); k_whole)) | ((with_reducible show wpAny _ _ (subscriptTail _ _ (Value.ref _) (Value.int _ _)) _ _ _); (with_unfolding_all refine' names_at ?N ?hm ?hl ?ht ?h0 ?h1 ?_ ?k6 ?k7; (case N => k_asm); (case hm => k_mem); (case hl => assumption); (case ht => (intro e9q9 he9q9; simp only [List.mem_cons, List.mem_append, List.mem_map]; first | exact .inr (.inl ⟨e9q9, he9q9, rfl⟩) | exact .inl ⟨e9q9, he9q9, rfl⟩)); (case h0 => assumption); (case h1 => assumption); (case k6 => with_unfolding_all rfl); (case k7 => intro _; with_unfolding_all rfl); k_whole); intro eq9 heq9 Nq9) | ((with_reducible show wpAny _ _ (binaryOp Operator.Mod _ (Value.int (Nat.cast (List.length _)) _)) _ _ _); k_dflt (refine names_mod (by assumption) ?_); intro jq9 tq9 hj0q9 hj1q9 hj2q9 kq9) | ((with_reducible show wpAny _ _ (call _ _) _ _ _); k_dflt (refine' names_size ?N ?hm ?hl ?_; (case N => k_asm); (case hm => k_mem); (case hl => assumption))) | ((with_reducible show wpAny _ _ (exec (PySem.Stmt.For _ _ _ _ _) _) _ _ _); (rename Fr _ _ _ _ => lFq9); (with_unfolding_all refine' For_invVF lFq9 ?k1 ?k2 ?_; (case k1 => exact rfl); (case k2 => exact rfl); k_whole)) | walk1 | (dsimp only; walk1) | (leave1; (try dsimp only)) | fail))
    unfold Halt
    generalize hf : fn5 hd5 = f5
    have hc5 := fn5_cases hd5
    rw [hf] at hc5
    rcases hc5 with rfl | rfl | rfl | rfl | rfl
    all_goals (repeat' (first | (k_unfold; (try dsimp only)) | (k_end; wrow_close) | ((with_reducible show wpAny _ _ (call _ _) _ _ _); k_dflt (refine join_is (News.isList (by k_asm) (by k_mem)) (by assumption) (by assumption) (by assumption) ?_); intro tq9 kq9) | ((with_reducible show wpAny _ _ (call (Value.ref _) _) _ _ _); k_dflt (refine' con_fold _ _ _ _ _ _ _ _ _ _ _ _ _ _ _ _ _ _ _ _ ?kB ?kF ?kX ?kN ?kT ?kk ?kd ?ku ?e1 ?_; (case kB => k_asm); (case kF => k_asm); (case kX => k_asm); (case kN => k_asm); (case kT => k_asm); (case kk => first | assumption | rfl); (case kd => ktr_room); (case ku => ke_room); (case e1 => assumption)); intro tq9 hq9 tkq9 Fq9 Nq9; (try k_sweep)) | ((with_reducible show wpAny _ _ (call (Value.ref _) _) _ _ _); k_dflt (refine' con_inb1b _ _ _ _ _ _ _ _ _ _ _ _ _ _ _ _ _ _ _ _ _ ?kB ?kF ?kX ?kN ?kT ?kk ?kd ?ku ?e1 ?e2 ?_; (case kB => k_asm); (case kF => k_asm); (case kX => k_asm); (case kN => k_asm); (case kT => k_asm); (case kk => first | assumption | rfl); (case kd => ktr_room); (case ku => ke_room); (case e1 => assumption); (case e2 => assumption)); intro hq9 tkq9 Fq9 Nq9; (try k_sweep)) | ((with_reducible show wpAny _ _ (eval (PySem.Expr.ListComp _ _ _ _ ) _) _ _ _); k_dflt (refine ListComp_TS (F₀ := by k_asm) (by with_unfolding_all rfl) (by decide) (by rfl) (by decide) (by rfl) ?_)) | ((with_reducible show wpAny _ _ (callWith _ (Value.ref (fn5 _)) _ _ _) _ _ _); refine halt ?_) | ((with_reducible show wpAny _ _ (call (Value.ref _) _) _ _ _); k_dflt (refine' con_letter _ _ _ _ _ _ _ _ _ _ _ _ _ _ _ _ _ _ _ _ ?kB ?kF ?kX ?kN ?kT ?kk ?kd ?ku ?e1 ?e2 ?_; (case kB => k_asm); (case kF => k_asm); (case kX => k_asm); (case kN => k_asm); (case kT => k_asm); (case kk => first | assumption | rfl); (case kd => ktr_room); (case ku => ke_room); (case e1 => assumption); (case e2 => assumption)); intro tq9 hq9 tkq9 Fq9 Nq9; (try k_sweep)) | ((with_reducible show wpAny _ _ (call (Value.ref _) _) _ _ _); k_dflt (refine' con_escF _ _ _ _ _ _ _ _ _ _ _ _ _ _ _ _ _ _ _ _ _ _ _ ?kB ?kF ?kX ?kN ?kT ?kk ?kd ?ku ?e0 ?e1 ?e2 ?_; (case kB => k_asm); (case kF => k_asm); (case kX => k_asm); (case kN => k_asm); (case kT => k_asm); (case kk => first | assumption | rfl); (case kd => ktr_room); (case ku => ke_room); (case e0 => assumption); (case e1 => assumption); (case e2 => assumption)); intro tq9 hq9 tkq9 Fq9 Nq9; (try k_sweep)) | ((with_reducible show wpAny _ _ (call (Value.ref _) _) _ _ _); k_dflt (refine' con_names _ _ _ _ _ _ _ _ _ _ _ _ _ _ _ _ _ _ _ _ ?kB ?kF ?kX ?kN ?kT ?kk ?kd ?ku ?e1 ?e2 ?_; (case kB => k_asm); (case kF => k_asm); (case kX => k_asm); (case kN => k_asm); (case kT => k_asm); (case kk => first | assumption | rfl); (case kd => ktr_room); (case ku => ke_room); (case e1 => assumption); (case e2 => assumption)); intro Dq9 esq9 nq9 hq9 tkq9 hesq9 Fq9 Nq9; (try k_sweep); have hnl := names_len hesq9) | ((with_reducible show wpAny _ _ (subscriptTail _ _ (Value.ref _) (Value.int _ _)) _ _ _); (with_unfolding_all refine' hand_at ?N ?hm ?hk ?_ ?k6 ?k7; (case N => k_asm); (case hm => k_mem); (case hk => assumption); (case k6 => with_unfolding_all rfl); (case k7 => intro _; with_unfolding_all rfl); k_whole)) | ((with_reducible show wpAny _ _ (subscriptTail _ _ (Value.ref _) (Value.int _ _)) _ _ _); (with_unfolding_all refine' names_at ?N ?hm ?hl ?ht ?h0 ?h1 ?_ ?k6 ?k7; (case N => k_asm); (case hm => k_mem); (case hl => assumption); (case ht => (intro e9q9 he9q9; simp only [List.mem_cons, List.mem_append, List.mem_map]; first | exact .inr (.inl ⟨e9q9, he9q9, rfl⟩) | exact .inl ⟨e9q9, he9q9, rfl⟩)); (case h0 => assumption); (case h1 => assumption); (case k6 => with_unfolding_all rfl); (case k7 => intro _; with_unfolding_all rfl); k_whole); intro eq9 heq9 Nq9) | ((with_reducible show wpAny _ _ (binaryOp Operator.Mod _ (Value.int (Nat.cast (List.length _)) _)) _ _ _); k_dflt (refine names_mod (by assumption) ?_); intro jq9 tq9 hj0q9 hj1q9 hj2q9 kq9) | ((with_reducible show wpAny _ _ (call _ _) _ _ _); k_dflt (refine' names_size ?N ?hm ?hl ?_; (case N => k_asm); (case hm => k_mem); (case hl => assumption))) | ((with_reducible show wpAny _ _ (exec (PySem.Stmt.For _ _ _ _ _) _) _ _ _); (rename Fr _ _ _ _ => lFq9); (with_unfolding_all refine' For_invVF lFq9 ?k1 ?k2 ?_; (case k1 => exact rfl); (case k2 => exact rfl); k_whole)) | walk1 | (dsimp only; walk1) | (leave1; (try dsimp only)) | fail))
    all_goals rename Fr _ _ _ _ => F9
    all_goals rename News _ _ _ _ => N9
    all_goals refine turn_end (.inl rfl) ⟨_, _, _, _⟩ F9 N9 hne (mapL (by intro p hp; simp only [List.mem_cons, List.not_mem_nil, or_false] at hp; rcases hp with rfl | rfl <;> rfl) (fun y hy hq => by
        have y0 := hq _ (.head _)
        have y1 := hq _ (.tail _ (.head _))
        dsimp only at y0 y1
        simp only [if_neg y0, if_neg y1, if_neg hy]
        try (rw [ovr_old (by intro p hp; simp only [List.mem_cons, List.not_mem_nil, or_false] at hp; rcases hp with rfl | rfl <;> assumption)])
        try (simp only [if_neg y0, if_neg y1]))) ⟨⟨Int.fmod_nonneg_of_pos _ (by decide), Int.fmod_lt_of_pos _ (by decide)⟩, .inr ⟨i, rfl, rfl⟩⟩
  case done =>
    intro a u h tk ha F2 N2
    obtain ⟨x, tx, hd5, th5⟩ := a
    dsimp only at ha F2
    clear F9 N3 R9
    have hxl : x.length = 4 * (many.toNat - 1) + 5 := by rw [ha]; exact body_len hraw
    have hxq : x.length ≤ 40 := by omega
    (repeat' (first | (k_unfold; (try dsimp only)) | (k_end; wrow_close) | ((with_reducible show wpAny _ _ (call _ _) _ _ _); k_dflt (refine join_is (News.isList (by k_asm) (by k_mem)) (by assumption) (by assumption) (by assumption) ?_); intro tq9 kq9) | ((with_reducible show wpAny _ _ (call (Value.ref _) _) _ _ _); k_dflt (refine' con_fold _ _ _ _ _ _ _ _ _ _ _ _ _ _ _ _ _ _ _ _ ?kB ?kF ?kX ?kN ?kT ?kk ?kd ?ku ?e1 ?_; (case kB => k_asm); (case kF => k_asm); (case kX => k_asm); (case kN => k_asm); (case kT => k_asm); (case kk => first | assumption | rfl); (case kd => ktr_room); (case ku => ke_room); (case e1 => assumption)); intro tq9 hq9 tkq9 Fq9 Nq9; (try k_sweep)) | ((with_reducible show wpAny _ _ (call (Value.ref _) _) _ _ _); k_dflt (refine' con_inb1b _ _ _ _ _ _ _ _ _ _ _ _ _ _ _ _ _ _ _ _ _ ?kB ?kF ?kX ?kN ?kT ?kk ?kd ?ku ?e1 ?e2 ?_; (case kB => k_asm); (case kF => k_asm); (case kX => k_asm); (case kN => k_asm); (case kT => k_asm); (case kk => first | assumption | rfl); (case kd => ktr_room); (case ku => ke_room); (case e1 => assumption); (case e2 => assumption)); intro hq9 tkq9 Fq9 Nq9; (try k_sweep)) | ((with_reducible show wpAny _ _ (eval (PySem.Expr.ListComp _ _ _ _ ) _) _ _ _); k_dflt (refine ListComp_TS (F₀ := by k_asm) (by with_unfolding_all rfl) (by decide) (by rfl) (by decide) (by rfl) ?_)) | ((with_reducible show wpAny _ _ (callWith _ (Value.ref (fn5 _)) _ _ _) _ _ _); refine halt ?_) | ((with_reducible show wpAny _ _ (call (Value.ref _) _) _ _ _); k_dflt (refine' con_letter _ _ _ _ _ _ _ _ _ _ _ _ _ _ _ _ _ _ _ _ ?kB ?kF ?kX ?kN ?kT ?kk ?kd ?ku ?e1 ?e2 ?_; (case kB => k_asm); (case kF => k_asm); (case kX => k_asm); (case kN => k_asm); (case kT => k_asm); (case kk => first | assumption | rfl); (case kd => ktr_room); (case ku => ke_room); (case e1 => assumption); (case e2 => assumption)); intro tq9 hq9 tkq9 Fq9 Nq9; (try k_sweep)) | ((with_reducible show wpAny _ _ (call (Value.ref _) _) _ _ _); k_dflt (refine' con_escF _ _ _ _ _ _ _ _ _ _ _ _ _ _ _ _ _ _ _ _ _ _ _ ?kB ?kF ?kX ?kN ?kT ?kk ?kd ?ku ?e0 ?e1 ?e2 ?_; (case kB => k_asm); (case kF => k_asm); (case kX => k_asm); (case kN => k_asm); (case kT => k_asm); (case kk => first | assumption | rfl); (case kd => ktr_room); (case ku => ke_room); (case e0 => assumption); (case e1 => assumption); (case e2 => assumption)); intro tq9 hq9 tkq9 Fq9 Nq9; (try k_sweep)) | ((with_reducible show wpAny _ _ (call (Value.ref _) _) _ _ _); k_dflt (refine' con_names _ _ _ _ _ _ _ _ _ _ _ _ _ _ _ _ _ _ _ _ ?kB ?kF ?kX ?kN ?kT ?kk ?kd ?ku ?e1 ?e2 ?_; (case kB => k_asm); (case kF => k_asm); (case kX => k_asm); (case kN => k_asm); (case kT => k_asm); (case kk => first | assumption | rfl); (case kd => ktr_room); (case ku => ke_room); (case e1 => assumption); (case e2 => assumption)); intro Dq9 esq9 nq9 hq9 tkq9 hesq9 Fq9 Nq9; (try k_sweep); have hnl := names_len hesq9) | ((with_reducible show wpAny _ _ (subscriptTail _ _ (Value.ref _) (Value.int _ _)) _ _ _); (with_unfolding_all refine' hand_at ?N ?hm ?hk ?_ ?k6 ?k7; (case N => k_asm); (case hm => k_mem); (case hk => assumption); (case k6 => with_unfolding_all rfl); (case k7 => intro _; with_unfolding_all rfl); k_whole)) | ((with_reducible show wpAny _ _ (subscriptTail _ _ (Value.ref _) (Value.int _ _)) _ _ _); (with_unfolding_all refine' names_at ?N ?hm ?hl ?ht ?h0 ?h1 ?_ ?k6 ?k7; (case N => k_asm); (case hm => k_mem); (case hl => assumption); (case ht => (intro e9q9 he9q9; simp only [List.mem_cons, List.mem_append, List.mem_map]; first | exact .inr (.inl ⟨e9q9, he9q9, rfl⟩) | exact .inl ⟨e9q9, he9q9, rfl⟩)); (case h0 => assumption); (case h1 => assumption); (case k6 => with_unfolding_all rfl); (case k7 => intro _; with_unfolding_all rfl); k_whole); intro eq9 heq9 Nq9) | ((with_reducible show wpAny _ _ (binaryOp Operator.Mod _ (Value.int (Nat.cast (List.length _)) _)) _ _ _); k_dflt (refine names_mod (by assumption) ?_); intro jq9 tq9 hj0q9 hj1q9 hj2q9 kq9) | ((with_reducible show wpAny _ _ (call _ _) _ _ _); k_dflt (refine' names_size ?N ?hm ?hl ?_; (case N => k_asm); (case hm => k_mem); (case hl => assumption))) | ((with_reducible show wpAny _ _ (exec (PySem.Stmt.For _ _ _ _ _) _) _ _ _); (rename Fr _ _ _ _ => lFq9); (with_unfolding_all refine' For_invVF lFq9 ?k1 ?k2 ?_; (case k1 => exact rfl); (case k2 => exact rfl); k_whole)) | walk1 | (dsimp only; walk1) | (leave1; (try dsimp only)) | fail))
    unfold Halt
    refine' con_unseen _ _ _ _ _ _ _ _ _ _ _ _ _ _ _ _ _ _ _ _ ?kB ?kF ?kX ?kN ?kT ?kk ?kd ?ku ?_
    case kB => k_asm
    case kF => k_asm
    case kX => k_asm
    case kN => k_asm
    case kT => k_asm
    case kk => rfl
    case kd => ktr_room
    case ku => ke_room
    intro c9 t9 h9 tk9 hB9 hC9 F' N'
    (repeat' (first | (k_unfold; (try dsimp only)) | (k_end; wrow_close) | ((with_reducible show wpAny _ _ (call _ _) _ _ _); k_dflt (refine join_is (News.isList (by k_asm) (by k_mem)) (by assumption) (by assumption) (by assumption) ?_); intro tq9 kq9) | ((with_reducible show wpAny _ _ (call (Value.ref _) _) _ _ _); k_dflt (refine' con_fold _ _ _ _ _ _ _ _ _ _ _ _ _ _ _ _ _ _ _ _ ?kB ?kF ?kX ?kN ?kT ?kk ?kd ?ku ?e1 ?_; (case kB => k_asm); (case kF => k_asm); (case kX => k_asm); (case kN => k_asm); (case kT => k_asm); (case kk => first | assumption | rfl); (case kd => ktr_room); (case ku => ke_room); (case e1 => assumption)); intro tq9 hq9 tkq9 Fq9 Nq9; (try k_sweep)) | ((with_reducible show wpAny _ _ (call (Value.ref _) _) _ _ _); k_dflt (refine' con_inb1b _ _ _ _ _ _ _ _ _ _ _ _ _ _ _ _ _ _ _ _ _ ?kB ?kF ?kX ?kN ?kT ?kk ?kd ?ku ?e1 ?e2 ?_; (case kB => k_asm); (case kF => k_asm); (case kX => k_asm); (case kN => k_asm); (case kT => k_asm); (case kk => first | assumption | rfl); (case kd => ktr_room); (case ku => ke_room); (case e1 => assumption); (case e2 => assumption)); intro hq9 tkq9 Fq9 Nq9; (try k_sweep)) | ((with_reducible show wpAny _ _ (eval (PySem.Expr.ListComp _ _ _ _ ) _) _ _ _); k_dflt (refine ListComp_TS (F₀ := by k_asm) (by with_unfolding_all rfl) (by decide) (by rfl) (by decide) (by rfl) ?_)) | ((with_reducible show wpAny _ _ (callWith _ (Value.ref (fn5 _)) _ _ _) _ _ _); refine halt ?_) | ((with_reducible show wpAny _ _ (call (Value.ref _) _) _ _ _); k_dflt (refine' con_letter _ _ _ _ _ _ _ _ _ _ _ _ _ _ _ _ _ _ _ _ ?kB ?kF ?kX ?kN ?kT ?kk ?kd ?ku ?e1 ?e2 ?_; (case kB => k_asm); (case kF => k_asm); (case kX => k_asm); (case kN => k_asm); (case kT => k_asm); (case kk => first | assumption | rfl); (case kd => ktr_room); (case ku => ke_room); (case e1 => assumption); (case e2 => assumption)); intro tq9 hq9 tkq9 Fq9 Nq9; (try k_sweep)) | ((with_reducible show wpAny _ _ (call (Value.ref _) _) _ _ _); k_dflt (refine' con_escF _ _ _ _ _ _ _ _ _ _ _ _ _ _ _ _ _ _ _ _ _ _ _ ?kB ?kF ?kX ?kN ?kT ?kk ?kd ?ku ?e0 ?e1 ?e2 ?_; (case kB => k_asm); (case kF => k_asm); (case kX => k_asm); (case kN => k_asm); (case kT => k_asm); (case kk => first | assumption | rfl); (case kd => ktr_room); (case ku => ke_room); (case e0 => assumption); (case e1 => assumption); (case e2 => assumption)); intro tq9 hq9 tkq9 Fq9 Nq9; (try k_sweep)) | ((with_reducible show wpAny _ _ (call (Value.ref _) _) _ _ _); k_dflt (refine' con_names _ _ _ _ _ _ _ _ _ _ _ _ _ _ _ _ _ _ _ _ ?kB ?kF ?kX ?kN ?kT ?kk ?kd ?ku ?e1 ?e2 ?_; (case kB => k_asm); (case kF => k_asm); (case kX => k_asm); (case kN => k_asm); (case kT => k_asm); (case kk => first | assumption | rfl); (case kd => ktr_room); (case ku => ke_room); (case e1 => assumption); (case e2 => assumption)); intro Dq9 esq9 nq9 hq9 tkq9 hesq9 Fq9 Nq9; (try k_sweep); have hnl := names_len hesq9) | ((with_reducible show wpAny _ _ (subscriptTail _ _ (Value.ref _) (Value.int _ _)) _ _ _); (with_unfolding_all refine' hand_at ?N ?hm ?hk ?_ ?k6 ?k7; (case N => k_asm); (case hm => k_mem); (case hk => assumption); (case k6 => with_unfolding_all rfl); (case k7 => intro _; with_unfolding_all rfl); k_whole)) | ((with_reducible show wpAny _ _ (subscriptTail _ _ (Value.ref _) (Value.int _ _)) _ _ _); (with_unfolding_all refine' names_at ?N ?hm ?hl ?ht ?h0 ?h1 ?_ ?k6 ?k7; (case N => k_asm); (case hm => k_mem); (case hl => assumption); (case ht => (intro e9q9 he9q9; simp only [List.mem_cons, List.mem_append, List.mem_map]; first | exact .inr (.inl ⟨e9q9, he9q9, rfl⟩) | exact .inl ⟨e9q9, he9q9, rfl⟩)); (case h0 => assumption); (case h1 => assumption); (case k6 => with_unfolding_all rfl); (case k7 => intro _; with_unfolding_all rfl); k_whole); intro eq9 heq9 Nq9) | ((with_reducible show wpAny _ _ (binaryOp Operator.Mod _ (Value.int (Nat.cast (List.length _)) _)) _ _ _); k_dflt (refine names_mod (by assumption) ?_); intro jq9 tq9 hj0q9 hj1q9 hj2q9 kq9) | ((with_reducible show wpAny _ _ (call _ _) _ _ _); k_dflt (refine' names_size ?N ?hm ?hl ?_; (case N => k_asm); (case hm => k_mem); (case hl => assumption))) | ((with_reducible show wpAny _ _ (exec (PySem.Stmt.For _ _ _ _ _) _) _ _ _); (rename Fr _ _ _ _ => lFq9); (with_unfolding_all refine' For_invVF lFq9 ?k1 ?k2 ?_; (case k1 => exact rfl); (case k2 => exact rfl); k_whole)) | walk1 | (dsimp only; walk1) | (leave1; (try dsimp only)) | fail))
    unfold Halt
    rename Fr _ _ _ _ => F9
    rename News _ _ _ _ => N9
    obtain ⟨hl1, hl2⟩ := letter_page hg0 hg1
    have hk8 : many.toNat - 1 < 8 := by omega
    obtain ⟨q1, q2, q3⟩ := cut_of hk8 hraw
    have hP := page_list (c := c9) (l := letterCode ((heap.fdiv 20).fmod 12)) ha hk8 hraw
    generalize (Txt.slice x none (some 1) ++ (⟨#[c9]⟩ : PySem.Str) ++ Txt.slice x (some 1) none ++ (⟨#[letterCode ((heap.fdiv 20).fmod 12)]⟩ : PySem.Str)) = P at hP F9 ⊢
    have hmem : ∀ d ∈ P.cps.toList, d < 1114112 ∧ (inB1 (d : Int) = true ∨ (inB1 (d : Int) = false ∧ d ∈ pageC)) := by
      rw [hP]
      intro d hd
      have yes : ∀ d, d ∈ pageC → d < 1114112 ∧ (inB1 (d : Int) = true ∨ (inB1 (d : Int) = false ∧ d ∈ pageC)) := fun d hd => ⟨(fold_of hd).1, .inr ⟨(fold_of hd).2.1, hd⟩⟩
      rcases List.mem_cons.mp hd with rfl | hd
      · exact yes _ (q3 _ (.head _))
      · rcases List.mem_cons.mp hd with rfl | hd
        · exact ⟨hC9, .inl hB9⟩
        · rcases List.mem_append.mp hd with hd | hd
          · exact yes _ (q3 _ (.tail _ hd))
          · rw [List.mem_singleton.mp hd]; exact yes _ hl1
    obtain ⟨hj1, hj2⟩ := kept_join hP hB9 q3 hl1 hl2 hlo
    have hr3 := raw_len hraw
    have hlen : P.cps.size = P.cps.toList.length := rfl
    have hsz : P.cps.size ≤ 100 := by rw [hlen, hP]; simp only [List.length_cons, List.length_append, restL_len, List.length_nil]; omega
    have hnl3 := nm_len hnm
    have hnl4 : nm.length ≤ 3 := by omega
    refine ⟨_, _, _, rfl, rfl, F9, N9, by rw [sizeLine_eq]; omega, fun s₂ hs₂ => ?_⟩
    obtain ⟨g, rfl⟩ := hs₂
    refine restT_inv P.cps.size (fun i ys nw => nw = _ ∧ StrsAre ys (kept (P.cps.toList.take i))) ?turn2 ?fin2 P.cps.size 0 [] _ (by omega) ⟨rfl, .nil⟩
    case turn2 =>
      rintro i ys nw v I oI C oC D m₂ h tk E' hi4 ⟨rfl, hS⟩ ⟨d, t, hd4, rfl⟩ h3 h4 h5 h6 h7 h8
      have h7' := h7
      simp only [LCg.Off3] at h7
      have hdl : P.cps.toList[i]? = some d := by simpa using hd4
      have htk : P.cps.toList.take (i + 1) = P.cps.toList.take i ++ [d] := by rw [List.take_add_one, hdl]; rfl
      obtain ⟨hd0, hd1 | ⟨hd1, hd2⟩⟩ := hmem d (List.mem_of_getElem? hdl)
      · (repeat' (first | (k_unfold; (try dsimp only)) | (k_end; wrow_close) | ((with_reducible show wpAny _ _ (call _ _) _ _ _); k_dflt (refine join_is (News.isList (by k_asm) (by k_mem)) (by assumption) (by assumption) (by assumption) ?_); intro tq9 kq9) | ((with_reducible show wpAny _ _ (call (Value.ref _) _) _ _ _); k_dflt (refine' con_fold _ _ _ _ _ _ _ _ _ _ _ _ _ _ _ _ _ _ _ _ ?kB ?kF ?kX ?kN ?kT ?kk ?kd ?ku ?e1 ?_; (case kB => k_asm); (case kF => k_asm); (case kX => k_asm); (case kN => k_asm); (case kT => k_asm); (case kk => first | assumption | rfl); (case kd => ktr_room); (case ku => ke_room); (case e1 => assumption)); intro tq9 hq9 tkq9 Fq9 Nq9; (try k_sweep)) | ((with_reducible show wpAny _ _ (call (Value.ref _) _) _ _ _); k_dflt (refine' con_inb1b _ _ _ _ _ _ _ _ _ _ _ _ _ _ _ _ _ _ _ _ _ ?kB ?kF ?kX ?kN ?kT ?kk ?kd ?ku ?e1 ?e2 ?_; (case kB => k_asm); (case kF => k_asm); (case kX => k_asm); (case kN => k_asm); (case kT => k_asm); (case kk => first | assumption | rfl); (case kd => ktr_room); (case ku => ke_room); (case e1 => assumption); (case e2 => assumption)); intro hq9 tkq9 Fq9 Nq9; (try k_sweep)) | ((with_reducible show wpAny _ _ (eval (PySem.Expr.ListComp _ _ _ _ ) _) _ _ _); k_dflt (refine ListComp_TS (F₀ := by k_asm) (by with_unfolding_all rfl) (by decide) (by rfl) (by decide) (by rfl) ?_)) | ((with_reducible show wpAny _ _ (callWith _ (Value.ref (fn5 _)) _ _ _) _ _ _); refine halt ?_) | ((with_reducible show wpAny _ _ (call (Value.ref _) _) _ _ _); k_dflt (refine' con_letter _ _ _ _ _ _ _ _ _ _ _ _ _ _ _ _ _ _ _ _ ?kB ?kF ?kX ?kN ?kT ?kk ?kd ?ku ?e1 ?e2 ?_; (case kB => k_asm); (case kF => k_asm); (case kX => k_asm); (case kN => k_asm); (case kT => k_asm); (case kk => first | assumption | rfl); (case kd => ktr_room); (case ku => ke_room); (case e1 => assumption); (case e2 => assumption)); intro tq9 hq9 tkq9 Fq9 Nq9; (try k_sweep)) | ((with_reducible show wpAny _ _ (call (Value.ref _) _) _ _ _); k_dflt (refine' con_escF _ _ _ _ _ _ _ _ _ _ _ _ _ _ _ _ _ _ _ _ _ _ _ ?kB ?kF ?kX ?kN ?kT ?kk ?kd ?ku ?e0 ?e1 ?e2 ?_; (case kB => k_asm); (case kF => k_asm); (case kX => k_asm); (case kN => k_asm); (case kT => k_asm); (case kk => first | assumption | rfl); (case kd => ktr_room); (case ku => ke_room); (case e0 => assumption); (case e1 => assumption); (case e2 => assumption)); intro tq9 hq9 tkq9 Fq9 Nq9; (try k_sweep)) | ((with_reducible show wpAny _ _ (call (Value.ref _) _) _ _ _); k_dflt (refine' con_names _ _ _ _ _ _ _ _ _ _ _ _ _ _ _ _ _ _ _ _ ?kB ?kF ?kX ?kN ?kT ?kk ?kd ?ku ?e1 ?e2 ?_; (case kB => k_asm); (case kF => k_asm); (case kX => k_asm); (case kN => k_asm); (case kT => k_asm); (case kk => first | assumption | rfl); (case kd => ktr_room); (case ku => ke_room); (case e1 => assumption); (case e2 => assumption)); intro Dq9 esq9 nq9 hq9 tkq9 hesq9 Fq9 Nq9; (try k_sweep); have hnl := names_len hesq9) | ((with_reducible show wpAny _ _ (subscriptTail _ _ (Value.ref _) (Value.int _ _)) _ _ _); (with_unfolding_all refine' hand_at ?N ?hm ?hk ?_ ?k6 ?k7; (case N => k_asm); (case hm => k_mem); (case hk => assumption); (case k6 => with_unfolding_all rfl); (case k7 => intro _; with_unfolding_all rfl); k_whole)) | ((with_reducible show wpAny _ _ (subscriptTail _ _ (Value.ref _) (Value.int _ _)) _ _ _); (with_unfolding_all refine' names_at ?N ?hm ?hl ?ht ?h0 ?h1 ?_ ?k6 ?k7; (case N => k_asm); (case hm => k_mem); (case hl => assumption); (case ht => (intro e9q9 he9q9; simp only [List.mem_cons, List.mem_append, List.mem_map]; first | exact .inr (.inl ⟨e9q9, he9q9, rfl⟩) | exact .inl ⟨e9q9, he9q9, rfl⟩)); (case h0 => assumption); (case h1 => assumption); (case k6 => with_unfolding_all rfl); (case k7 => intro _; with_unfolding_all rfl); k_whole); intro eq9 heq9 Nq9) | ((with_reducible show wpAny _ _ (binaryOp Operator.Mod _ (Value.int (Nat.cast (List.length _)) _)) _ _ _); k_dflt (refine names_mod (by assumption) ?_); intro jq9 tq9 hj0q9 hj1q9 hj2q9 kq9) | ((with_reducible show wpAny _ _ (call _ _) _ _ _); k_dflt (refine' names_size ?N ?hm ?hl ?_; (case N => k_asm); (case hm => k_mem); (case hl => assumption))) | ((with_reducible show wpAny _ _ (exec (PySem.Stmt.For _ _ _ _ _) _) _ _ _); (rename Fr _ _ _ _ => lFq9); (with_unfolding_all refine' For_invVF lFq9 ?k1 ?k2 ?_; (case k1 => exact rfl); (case k2 => exact rfl); k_whole)) | walk1 | (dsimp only; walk1) | (leave1; (try dsimp only)) | fail))
        rename Fr _ _ _ _ => F5
        rename News _ _ _ _ => N5
        exact LCg.CompEnd.intro F5 N5 _ (fun p hp => hp) h7' trivial ⟨rfl, by rw [htk, kept_no hd1]; exact hS⟩
      · (repeat' (first | (k_unfold; (try dsimp only)) | (k_end; wrow_close) | ((with_reducible show wpAny _ _ (call _ _) _ _ _); k_dflt (refine join_is (News.isList (by k_asm) (by k_mem)) (by assumption) (by assumption) (by assumption) ?_); intro tq9 kq9) | ((with_reducible show wpAny _ _ (call (Value.ref _) _) _ _ _); k_dflt (refine' con_fold _ _ _ _ _ _ _ _ _ _ _ _ _ _ _ _ _ _ _ _ ?kB ?kF ?kX ?kN ?kT ?kk ?kd ?ku ?e1 ?_; (case kB => k_asm); (case kF => k_asm); (case kX => k_asm); (case kN => k_asm); (case kT => k_asm); (case kk => first | assumption | rfl); (case kd => ktr_room); (case ku => ke_room); (case e1 => assumption)); intro tq9 hq9 tkq9 Fq9 Nq9; (try k_sweep)) | ((with_reducible show wpAny _ _ (call (Value.ref _) _) _ _ _); k_dflt (refine' con_inb1b _ _ _ _ _ _ _ _ _ _ _ _ _ _ _ _ _ _ _ _ _ ?kB ?kF ?kX ?kN ?kT ?kk ?kd ?ku ?e1 ?e2 ?_; (case kB => k_asm); (case kF => k_asm); (case kX => k_asm); (case kN => k_asm); (case kT => k_asm); (case kk => first | assumption | rfl); (case kd => ktr_room); (case ku => ke_room); (case e1 => assumption); (case e2 => assumption)); intro hq9 tkq9 Fq9 Nq9; (try k_sweep)) | ((with_reducible show wpAny _ _ (eval (PySem.Expr.ListComp _ _ _ _ ) _) _ _ _); k_dflt (refine ListComp_TS (F₀ := by k_asm) (by with_unfolding_all rfl) (by decide) (by rfl) (by decide) (by rfl) ?_)) | ((with_reducible show wpAny _ _ (callWith _ (Value.ref (fn5 _)) _ _ _) _ _ _); refine halt ?_) | ((with_reducible show wpAny _ _ (call (Value.ref _) _) _ _ _); k_dflt (refine' con_letter _ _ _ _ _ _ _ _ _ _ _ _ _ _ _ _ _ _ _ _ ?kB ?kF ?kX ?kN ?kT ?kk ?kd ?ku ?e1 ?e2 ?_; (case kB => k_asm); (case kF => k_asm); (case kX => k_asm); (case kN => k_asm); (case kT => k_asm); (case kk => first | assumption | rfl); (case kd => ktr_room); (case ku => ke_room); (case e1 => assumption); (case e2 => assumption)); intro tq9 hq9 tkq9 Fq9 Nq9; (try k_sweep)) | ((with_reducible show wpAny _ _ (call (Value.ref _) _) _ _ _); k_dflt (refine' con_escF _ _ _ _ _ _ _ _ _ _ _ _ _ _ _ _ _ _ _ _ _ _ _ ?kB ?kF ?kX ?kN ?kT ?kk ?kd ?ku ?e0 ?e1 ?e2 ?_; (case kB => k_asm); (case kF => k_asm); (case kX => k_asm); (case kN => k_asm); (case kT => k_asm); (case kk => first | assumption | rfl); (case kd => ktr_room); (case ku => ke_room); (case e0 => assumption); (case e1 => assumption); (case e2 => assumption)); intro tq9 hq9 tkq9 Fq9 Nq9; (try k_sweep)) | ((with_reducible show wpAny _ _ (call (Value.ref _) _) _ _ _); k_dflt (refine' con_names _ _ _ _ _ _ _ _ _ _ _ _ _ _ _ _ _ _ _ _ ?kB ?kF ?kX ?kN ?kT ?kk ?kd ?ku ?e1 ?e2 ?_; (case kB => k_asm); (case kF => k_asm); (case kX => k_asm); (case kN => k_asm); (case kT => k_asm); (case kk => first | assumption | rfl); (case kd => ktr_room); (case ku => ke_room); (case e1 => assumption); (case e2 => assumption)); intro Dq9 esq9 nq9 hq9 tkq9 hesq9 Fq9 Nq9; (try k_sweep); have hnl := names_len hesq9) | ((with_reducible show wpAny _ _ (subscriptTail _ _ (Value.ref _) (Value.int _ _)) _ _ _); (with_unfolding_all refine' hand_at ?N ?hm ?hk ?_ ?k6 ?k7; (case N => k_asm); (case hm => k_mem); (case hk => assumption); (case k6 => with_unfolding_all rfl); (case k7 => intro _; with_unfolding_all rfl); k_whole)) | ((with_reducible show wpAny _ _ (subscriptTail _ _ (Value.ref _) (Value.int _ _)) _ _ _); (with_unfolding_all refine' names_at ?N ?hm ?hl ?ht ?h0 ?h1 ?_ ?k6 ?k7; (case N => k_asm); (case hm => k_mem); (case hl => assumption); (case ht => (intro e9q9 he9q9; simp only [List.mem_cons, List.mem_append, List.mem_map]; first | exact .inr (.inl ⟨e9q9, he9q9, rfl⟩) | exact .inl ⟨e9q9, he9q9, rfl⟩)); (case h0 => assumption); (case h1 => assumption); (case k6 => with_unfolding_all rfl); (case k7 => intro _; with_unfolding_all rfl); k_whole); intro eq9 heq9 Nq9) | ((with_reducible show wpAny _ _ (binaryOp Operator.Mod _ (Value.int (Nat.cast (List.length _)) _)) _ _ _); k_dflt (refine names_mod (by assumption) ?_); intro jq9 tq9 hj0q9 hj1q9 hj2q9 kq9) | ((with_reducible show wpAny _ _ (call _ _) _ _ _); k_dflt (refine' names_size ?N ?hm ?hl ?_; (case N => k_asm); (case hm => k_mem); (case hl => assumption))) | ((with_reducible show wpAny _ _ (exec (PySem.Stmt.For _ _ _ _ _) _) _ _ _); (rename Fr _ _ _ _ => lFq9); (with_unfolding_all refine' For_invVF lFq9 ?k1 ?k2 ?_; (case k1 => exact rfl); (case k2 => exact rfl); k_whole)) | walk1 | (dsimp only; walk1) | (leave1; (try dsimp only)) | fail))
        rename Fr _ _ _ _ => F5
        rename News _ _ _ _ => N5
        exact LCg.CompEnd.intro F5 N5 _ (fun p hp => hp) h7' trivial ⟨rfl, by rw [htk, kept_yes hd1]; exact strs_snoc hS⟩
    case fin2 =>
      rintro ys nw ⟨rfl, hS⟩
      intro D h tk F3 N3 O3
      rw [hlen, List.take_length] at hS
      have hw : ((kept P.cps.toList).map (·.length)).sum + (kept P.cps.toList).length ≤ 1048576 := by rw [kept_weight, hj2]; omega
      have N4 : News _ _ h ((D, W.listOf ys.toArray ys.length) :: _) := N3
      clear N3
      have hS' : StrsAre ys.toArray.toList (kept P.cps.toList) := hS
      have hz1 : (PySem.Str.ofString "&").length ≤ 1 := by decide
      have hz2 : (PySem.Str.ofString ";k").length ≤ 2 := by decide
      have hz3 : (Txt.mul (PySem.Str.ofString "amp;") (many - 1)).length ≤ 28 := len_mul_leN (L := 4) (N := 7) (by decide) (by omega)
      (repeat' (first | (k_unfold; (try dsimp only)) | (k_end; wrow_close) | ((with_reducible show wpAny _ _ (call _ _) _ _ _); k_dflt (refine join_is (News.isList (by k_asm) (by k_mem)) (by assumption) (by assumption) (by assumption) ?_); intro tq9 kq9) | ((with_reducible show wpAny _ _ (call (Value.ref _) _) _ _ _); k_dflt (refine' con_fold _ _ _ _ _ _ _ _ _ _ _ _ _ _ _ _ _ _ _ _ ?kB ?kF ?kX ?kN ?kT ?kk ?kd ?ku ?e1 ?_; (case kB => k_asm); (case kF => k_asm); (case kX => k_asm); (case kN => k_asm); (case kT => k_asm); (case kk => first | assumption | rfl); (case kd => ktr_room); (case ku => ke_room); (case e1 => assumption)); intro tq9 hq9 tkq9 Fq9 Nq9; (try k_sweep)) | ((with_reducible show wpAny _ _ (call (Value.ref _) _) _ _ _); k_dflt (refine' con_inb1b _ _ _ _ _ _ _ _ _ _ _ _ _ _ _ _ _ _ _ _ _ ?kB ?kF ?kX ?kN ?kT ?kk ?kd ?ku ?e1 ?e2 ?_; (case kB => k_asm); (case kF => k_asm); (case kX => k_asm); (case kN => k_asm); (case kT => k_asm); (case kk => first | assumption | rfl); (case kd => ktr_room); (case ku => ke_room); (case e1 => assumption); (case e2 => assumption)); intro hq9 tkq9 Fq9 Nq9; (try k_sweep)) | ((with_reducible show wpAny _ _ (eval (PySem.Expr.ListComp _ _ _ _ ) _) _ _ _); k_dflt (refine ListComp_TS (F₀ := by k_asm) (by with_unfolding_all rfl) (by decide) (by rfl) (by decide) (by rfl) ?_)) | ((with_reducible show wpAny _ _ (callWith _ (Value.ref (fn5 _)) _ _ _) _ _ _); refine halt ?_) | ((with_reducible show wpAny _ _ (call (Value.ref _) _) _ _ _); k_dflt (refine' con_letter _ _ _ _ _ _ _ _ _ _ _ _ _ _ _ _ _ _ _ _ ?kB ?kF ?kX ?kN ?kT ?kk ?kd ?ku ?e1 ?e2 ?_; (case kB => k_asm); (case kF => k_asm); (case kX => k_asm); (case kN => k_asm); (case kT => k_asm); (case kk => first | assumption | rfl); (case kd => ktr_room); (case ku => ke_room); (case e1 => assumption); (case e2 => assumption)); intro tq9 hq9 tkq9 Fq9 Nq9; (try k_sweep)) | ((with_reducible show wpAny _ _ (call (Value.ref _) _) _ _ _); k_dflt (refine' con_escF _ _ _ _ _ _ _ _ _ _ _ _ _ _ _ _ _ _ _ _ _ _ _ ?kB ?kF ?kX ?kN ?kT ?kk ?kd ?ku ?e0 ?e1 ?e2 ?_; (case kB => k_asm); (case kF => k_asm); (case kX => k_asm); (case kN => k_asm); (case kT => k_asm); (case kk => first | assumption | rfl); (case kd => ktr_room); (case ku => ke_room); (case e0 => assumption); (case e1 => assumption); (case e2 => assumption)); intro tq9 hq9 tkq9 Fq9 Nq9; (try k_sweep)) | ((with_reducible show wpAny _ _ (call (Value.ref _) _) _ _ _); k_dflt (refine' con_names _ _ _ _ _ _ _ _ _ _ _ _ _ _ _ _ _ _ _ _ ?kB ?kF ?kX ?kN ?kT ?kk ?kd ?ku ?e1 ?e2 ?_; (case kB => k_asm); (case kF => k_asm); (case kX => k_asm); (case kN => k_asm); (case kT => k_asm); (case kk => first | assumption | rfl); (case kd => ktr_room); (case ku => ke_room); (case e1 => assumption); (case e2 => assumption)); intro Dq9 esq9 nq9 hq9 tkq9 hesq9 Fq9 Nq9; (try k_sweep); have hnl := names_len hesq9) | ((with_reducible show wpAny _ _ (subscriptTail _ _ (Value.ref _) (Value.int _ _)) _ _ _); (with_unfolding_all refine' hand_at ?N ?hm ?hk ?_ ?k6 ?k7; (case N => k_asm); (case hm => k_mem); (case hk => assumption); (case k6 => with_unfolding_all rfl); (case k7 => intro _; with_unfolding_all rfl); k_whole)) | ((with_reducible show wpAny _ _ (subscriptTail _ _ (Value.ref _) (Value.int _ _)) _ _ _); (with_unfolding_all refine' names_at ?N ?hm ?hl ?ht ?h0 ?h1 ?_ ?k6 ?k7; (case N => k_asm); (case hm => k_mem); (case hl => assumption); (case ht => (intro e9q9 he9q9; simp only [List.mem_cons, List.mem_append, List.mem_map]; first | exact .inr (.inl ⟨e9q9, he9q9, rfl⟩) | exact .inl ⟨e9q9, he9q9, rfl⟩)); (case h0 => assumption); (case h1 => assumption); (case k6 => with_unfolding_all rfl); (case k7 => intro _; with_unfolding_all rfl); k_whole); intro eq9 heq9 Nq9) | ((with_reducible show wpAny _ _ (binaryOp Operator.Mod _ (Value.int (Nat.cast (List.length _)) _)) _ _ _); k_dflt (refine names_mod (by assumption) ?_); intro jq9 tq9 hj0q9 hj1q9 hj2q9 kq9) | ((with_reducible show wpAny _ _ (call _ _) _ _ _); k_dflt (refine' names_size ?N ?hm ?hl ?_; (case N => k_asm); (case hm => k_mem); (case hl => assumption))) | ((with_reducible show wpAny _ _ (exec (PySem.Stmt.For _ _ _ _ _) _) _ _ _); (rename Fr _ _ _ _ => lFq9); (with_unfolding_all refine' For_invVF lFq9 ?k1 ?k2 ?_; (case k1 => exact rfl); (case k2 => exact rfl); k_whole)) | walk1 | (dsimp only; walk1) | (leave1; (try dsimp only)) | fail))
      rename News _ _ _ _ => N9
      rename _ ∧ _ => l9
      rw [told_eq hm hm8] at N9
      exact hret _ _ nm _ _ _ _ hnm rfl (allLt_mem l9.2.2) (by assumption) (fun p hp => N9 p (by
        rcases List.mem_cons.mp hp with rfl | hp
        · exact .head _
        · exact .tail _ (.tail _ (.tail _ hp))))
end
local macro_rules | `(tactic| walk_at "mine.4") => `(tactic| (k_here; (with_reducible show wpAny _ _ (subscriptTail _ _ (Value.ref _) (Value.int _ _)) _ _ _); (with_unfolding_all refine' list_int ?N ?hm ?hi ?h0 ?h1 ?hz ?_ ?k6 ?k7; (case N => k_asm); (case hm => k_mem); (case hi => assumption); (case h0 => first | assumption | omega); (case h1 => first | assumption | omega); (case hz => first | assumption | omega); (case k6 => with_unfolding_all rfl); (case k7 => intro _; with_unfolding_all rfl); k_whole; intro tI)))
section
set_option linter.unusedVariables false
set_option maxRecDepth 100000
set_option maxHeartbeats 4000000
local macro_rules | `(tactic| walk_at "WhlIf") => `(tactic| (k_here; first | (refine WhlIf.yes (decide_eq_true (by (simp only [Int.reduceAdd, Int.reduceMul, Int.reduceFDiv]); omega)) ?_) | (refine WhlIf.no (decide_eq_false (by (simp only [Int.reduceAdd, Int.reduceMul, Int.reduceFDiv]); omega)) ?_)))
noncomputable def stepsOf (t : Int) : Int := if t ≤ 2 then 2 else if t ≤ 5 then 3 else 4
noncomputable def WMid (h₀ : Heap) (L : Addr) (m : PySem.Str → Option Value) (c1 : Addr × Obj) (c : Addr) (rest : List (Addr × Obj)) (total : Int) (s : Shared) (f : Flow) (s' : Shared) : Prop :=
  f = .next ∧ ∃ h tk o t st, s' = { s with heap := h, toks := tk } ∧ Fr h₀ L h m ∧ News h₀ L h (c1 :: (c, o) :: rest) ∧ o.data = .cell (some (.int st t)) ∧ st = stepsOf total
theorem wmid {M : Model} {A : Around} {tr : Sem Flow} {E : Value → Shared → Prop} {Q : Flow → Shared → Prop} {s : Shared} {h₀ : Heap} {L : Addr} {m : PySem.Str → Option Value} {c1 : Addr × Obj} {c : Addr} {o : Obj} {rest : List (Addr × Obj)} (total : Int) (F : Fr h₀ L s.heap m) (N : News h₀ L s.heap (c1 :: (c, o) :: rest))
    (h1 : wpAny M A tr (WMid h₀ L m c1 c rest total s) E s) (h2 : ∀ h tk o t, Fr h₀ L h m → News h₀ L h (c1 :: (c, o) :: rest) → o.data = .cell (some (.int (stepsOf total) t)) → Q .next { s with heap := h, toks := tk }) : wpAny M A tr Q E s :=
  wpAny_mono h1 (fun f s' q => by obtain ⟨rfl, h, tk, o, t, st, rfl, F, N, hd, rfl⟩ := q; exact h2 h tk o t F N hd) fun _ _ e => e
noncomputable def extraL (hs : List Int) (st : Int) (i : Nat) : List Int := (List.range i).map fun (k : Nat) => hs.getD k 0 - (st - 1 - k)
theorem extraL_succ (hs : List Int) (st : Int) (i : Nat) : extraL hs st (i + 1) = extraL hs st i ++ [hs.getD i 0 - (st - 1 - i)] := by simp [extraL, List.range_succ]
noncomputable def badL (e : List Int) : List Int := e.filter fun x => !(decide (x = 0) || decide (x = 1))
theorem badL_yes {l : List Int} {z : Int} (a : ([0, 1].any fun x => x == z) = true) : badL (l ++ [z]) = badL l := by
  have h : z = 0 ∨ z = 1 := by simp at a; omega
  rcases h with rfl | rfl <;> simp [badL]
theorem badL_no {l : List Int} {z : Int} (a : ([0, 1].any fun x => x == z) = false) : badL (l ++ [z]) = badL l ++ [z] := by
  have h : z ≠ 0 ∧ z ≠ 1 := by simp at a; omega
  simp [badL, h.1, h.2]
noncomputable def highL (ds : List Int) (st : Int) : List Int := ds.reverse ++ (List.replicate (st - ds.length).toNat [0]).flatten
noncomputable def extraOf (ds : List Int) (total : Int) : List Int := if badL (extraL (highL ds (stepsOf total)) (stepsOf total) (stepsOf total).toNat) = [] then extraL (highL ds (stepsOf total)) (stepsOf total) (stepsOf total).toNat else []
theorem sorted_perm : ∀ {a b : List Int}, a.Perm b → List.Pairwise (fun x y => x ≤ y) a → List.Pairwise (fun x y => x ≤ y) b → a = b
  | [], b, h, _, _ => h.nil_eq
  | x :: a, [], h, _, _ => absurd h.symm.nil_eq (by simp)
  | x :: a, y :: b, h, h1, h2 => by
    have hx : x ∈ y :: b := h.subset (.head _)
    have hy : y ∈ x :: a := h.symm.subset (.head _)
    have e : x = y := by
      have p1 : y ≤ x := by
        rcases List.mem_cons.mp hx with e | hx
        · omega
        · exact (List.pairwise_cons.mp h2).1 x hx
      have p2 : x ≤ y := by
        rcases List.mem_cons.mp hy with e | hy
        · omega
        · exact (List.pairwise_cons.mp h1).1 y hy
      omega
    subst e
    rw [sorted_perm (List.Perm.cons_inv h) (List.pairwise_cons.mp h1).2 (List.pairwise_cons.mp h2).2]
local macro_rules | `(tactic| walk_at "exec While Compare cons nil") => `(tactic| walk_at "mine.1")
local macro_rules | `(tactic| walk_at "subscriptTail") => `(tactic| walk_at "mine.4")
local macro_rules | `(tactic| walk_at "subscriptTail Name Name ref int") => `(tactic| walk_at "mine.4")
local macro_rules | `(tactic| walk_at "pyIter ref") => `(tactic| walk_at "mine.1")
local macro_rules | `(tactic| walk_at "TurnT") => `(tactic| walk_at "mine.1")
local macro_rules | `(tactic| walk_at "CompSrc") => `(tactic| walk_at "mine.1")
local macro_rules | `(tactic| walk_at "CompEnd") => `(tactic| walk_at "mine.1")
local macro_rules | `(tactic| walk_at "FinE") => `(tactic| walk_at "mine.1")
local macro_rules | `(tactic| walk_at "CompSrcT") => `(tactic| walk_at "mine.1")
local macro_rules | `(tactic| k_all) => `(tactic| walk_at "mine.3")
local macro_rules | `(tactic| walk_at "WMid") => `(tactic| walk_at "mine.1")
theorem con_extra {w : World} {p : Program} {loose : List PySem.Str} {mean : ExcName → Option Value} {mg mb : PySem.Str → Option Value} (dp un : Nat) (gd : Option (List Code)) (cn : PySem.Str) (cs : Scope) (a : Addr) (ccd : Value) (cl : List (PySem.Str × Addr)) (outer : List Env) (A₀ : Around) (base h₀ : Heap) (L : Addr) (m : PySem.Str → Option Value) (news : List (Addr × Obj)) (s : Shared) (l : Addr) (vs : List Value) (n : Nat) (ds : List Int) (total : Int) (tt : Tok)
    (Q E : Value → Shared → Prop) (B : Below A₀ base outer h₀) (F : Fr h₀ L s.heap m) (X : (K w.params).In h₀) (N : News h₀ L s.heap news) (T : Top p loose mean mg mb h₀) (hk : cs.kind = .function) (hd : dp + 8 < recursionLimit) (hu : un + 64 < cLine) (hu2 : un + 120 < cLine) (hm : (l, W.listOf vs.toArray n) ∈ news) (hi : IntsAre vs ds) (hso : List.Pairwise (fun x y => x ≤ y) ds) (h9 : ds.length ≤ 8) (t1 : 1 ≤ total) (t2 : total ≤ 8)
    (hret : ∀ D its h' tk', IntsAre its (extraOf ds total) → (∀ p ∈ news, @Ne Nat p.1 D) → Fr h₀ L h' m → News h₀ L h' ((D, W.listOf its.toArray its.length) :: news) → Q (.ref D) { s with heap := h', toks := tk' }) :
    wpAny (model pw w) (ktrTop dp un gd cn cs L a ccd cl outer) (call (.ref 276) [.ref l, .int total tt]) Q E s := by
  have N2 : News h₀ L s.heap ((l, W.listOf vs.toArray n) :: news) := fun p hp => N p (by
    simp only [List.mem_cons] at hp
    rcases hp with rfl | hp
    · exact hm
    · exact hp)
  clear N
  have hz := hi.length
  refine wpAny_call ?_
  k_dflt (refine' code_defCL ?k1 ?k2 ?k3 ?k4 ?k5 ?kA ?kF ?kK ?k6 ?kp ?kb ?ks ?k7 ?k8 ?k9 ?kB ?kD ?_ ?c2 ?c3 ?c4; (case kA => exact rfl); (case kF => exact rfl); (case kK => assumption); (case k1 => k_asm); (case k2 => k_asm); (case k3 => k_asm); (case k4 => k_asm); (case k5 => k_asm); (case k6 => k_is); (case kp => conv => lhs; whnf); (case kb => conv => lhs; whnf); (case ks => conv => lhs; whnf); (case k7 => k_is); (case k8 => ktr_room); (case k9 => exact BindsTo.of_eq rfl); (case kB => exact rfl); (case kD => decide +kernel); (case c2 => exact rfl); (case c3 => exact rfl); (case c4 => exact rfl); k_whole; intro gq9 Lq9 hq9 tkq9 cellsq9 FGq9 Fq9 Nq9 Yq9 Bq9 Xq9 Tq9 l1q9; (have l0q9 := cells_off l1q9); (obtain ⟨l0q9, laq9, lbq9, lcq9, ldq9, leq9, lfq9, lgq9, lhq9, liq9, ljq9⟩ := l0q9); (have hYq9 := CellsAre.two Yq9; obtain ⟨o1q9, o2q9, hEq9, d1q9, d2q9⟩ := hYq9; subst hEq9; clear Yq9); (try simp only [List.cons_append, List.nil_append] at Nq9); (try (conv at Fq9 => arg 4; whnf)); (try (conv at d1q9 => rhs; arg 1; whnf)); (try (conv at d2q9 => rhs; arg 1; whnf)); (try dsimp only); (try k_fold))
  (repeat' (first | (k_unfold; (try dsimp only)) | (k_end; wrow_close) | with_reducible ((with_reducible show wpAny _ _ (compareOp CmpOp.NotEq (Value.ref _) (Value.ref _)) _ _ _); k_dflt (refine' ne_ints_nil ?N ?ha ?hb ?hi ?hu ?_; (case N => k_asm); (case ha => k_mem); (case hb => k_mem); (case hi => assumption); (case hu => ke_room))) | with_reducible ((with_reducible show wpAny _ _ (eval (PySem.Expr.ListComp _ _ _ _ ) _) _ _ _); k_dflt (refine LCt.ListComp_T (F₀ := by k_asm) (by with_unfolding_all rfl) (by decide) (by rfl) (by decide) (by rfl) ?_)) | with_reducible ((with_reducible show wpAny _ _ (exec (PySem.Stmt.For _ _ _ _ _) _) _ _ _); (rename Fr _ _ _ _ => lFq9); (with_unfolding_all refine' For_invVF lFq9 ?k1 ?k2 ?_; (case k1 => exact rfl); (case k2 => exact rfl); k_whole)) | walk1 | (dsimp only; walk1) | (leave1; (try dsimp only)) | fail))
  unfold Halt
  rename Fr _ _ _ _ => F9
  rename News _ _ _ _ => N9
  refine' wmid total F9 N9 ?w ?c
  case w =>
    have h3 : total ≤ 2 ∨ (3 ≤ total ∧ total ≤ 5) ∨ 6 ≤ total := by omega
    rcases h3 with h3 | h3 | h3
    all_goals refine whl_start 5 ?_
    all_goals (repeat' (first | (k_unfold; (try dsimp only)) | (k_end; wrow_close) | with_reducible ((with_reducible show wpAny _ _ (compareOp CmpOp.NotEq (Value.ref _) (Value.ref _)) _ _ _); k_dflt (refine' ne_ints_nil ?N ?ha ?hb ?hi ?hu ?_; (case N => k_asm); (case ha => k_mem); (case hb => k_mem); (case hi => assumption); (case hu => ke_room))) | with_reducible ((with_reducible show wpAny _ _ (eval (PySem.Expr.ListComp _ _ _ _ ) _) _ _ _); k_dflt (refine LCt.ListComp_T (F₀ := by k_asm) (by with_unfolding_all rfl) (by decide) (by rfl) (by decide) (by rfl) ?_)) | with_reducible ((with_reducible show wpAny _ _ (exec (PySem.Stmt.For _ _ _ _ _) _) _ _ _); (rename Fr _ _ _ _ => lFq9); (with_unfolding_all refine' For_invVF lFq9 ?k1 ?k2 ?_; (case k1 => exact rfl); (case k2 => exact rfl); k_whole)) | walk1 | (dsimp only; walk1) | (leave1; (try dsimp only)) | fail))
    all_goals rename Fr _ _ _ _ => F5
    all_goals rename News _ _ _ _ => N5
    all_goals refine ⟨rfl, _, _, _, _, _, rfl, F5, N5, by assumption, ?_⟩
    all_goals unfold stepsOf
    · rw [if_pos (by omega)]; rfl
    · rw [if_neg (by omega), if_pos (by omega)]; rfl
    · rw [if_neg (by omega), if_neg (by omega)]; rfl
  case c =>
    intro h tk o t F5 N5 d5
    have hst : 2 ≤ stepsOf total ∧ stepsOf total ≤ 4 := by
      unfold stepsOf
      split
      · omega
      · split <;> omega
    unfold extraOf at hret
    generalize stepsOf total = st at hret d5 hst ⊢
    clear F9 N9
    dsimp only
    (repeat' (first | (k_unfold; (try dsimp only)) | (k_end; wrow_close) | with_reducible ((with_reducible show wpAny _ _ (compareOp CmpOp.NotEq (Value.ref _) (Value.ref _)) _ _ _); k_dflt (refine' ne_ints_nil ?N ?ha ?hb ?hi ?hu ?_; (case N => k_asm); (case ha => k_mem); (case hb => k_mem); (case hi => assumption); (case hu => ke_room))) | with_reducible ((with_reducible show wpAny _ _ (eval (PySem.Expr.ListComp _ _ _ _ ) _) _ _ _); k_dflt (refine LCt.ListComp_T (F₀ := by k_asm) (by with_unfolding_all rfl) (by decide) (by rfl) (by decide) (by rfl) ?_)) | with_reducible ((with_reducible show wpAny _ _ (exec (PySem.Stmt.For _ _ _ _ _) _) _ _ _); (rename Fr _ _ _ _ => lFq9); (with_unfolding_all refine' For_invVF lFq9 ?k1 ?k2 ?_; (case k1 => exact rfl); (case k2 => exact rfl); k_whole)) | walk1 | (dsimp only; walk1) | (leave1; (try dsimp only)) | fail))
    unfold Halt
    rename List Int => ds
    rename IntsAre _ (_ ++ _) => hH
    change IntsAre _ (highL ds st) at hH
    have hHl : st ≤ (highL ds st).length := by simp [highL]; omega
    have hHm : (highL ds st).length ≤ 20 := by simp [highL]; omega
    rename Fr _ _ _ _ => F9
    rename News _ _ _ _ => N9
    rename IsRange _ _ _ _ _ _ _ _ => R9
    have N10 := news_drop [_] [_, _, _, _] N9
    simp only [List.cons_append, List.nil_append] at N10
    clear N9
    rename IntsAre (List.flatten _) _ => hx1
    rename IntsAre _ (List.reverse _) => hx2
    clear hx1 hx2
    refine LCg.CompSrc.range (n := (st - 0).toNat) (by rfl) F9 N10 R9 (small_one (by omega) (by omega) (by omega) (by omega)) (rangeSize_nat _ _) (by rw [sizeLine_eq]; omega) (fun g => ?_)
    refine rest_inv (st - 0).toNat (fun i ys nw => nw = _ ∧ IntsAre ys (extraL (highL ds st) st i)) ?turn ?fin (st - 0).toNat 0 [] _ (by omega) ⟨rfl, .nil⟩
    case turn =>
      rintro i ys nw v I oI C oC D m₂ h tk E' hi4 ⟨rfl, hI⟩ ⟨t, rfl⟩ h3 h4 h5 h6 h7 h8
      have h7' := h7
      have hie : (i : Int) < st := by clear h8; omega
      have g0 : (0 : Int) ≤ 0 + (i : Int) := by rw [Int.zero_add]; exact Int.natCast_nonneg i
      have g1 : 0 + (i : Int) < (highL ds st).length := by rw [Int.zero_add]; exact Int.lt_of_lt_of_le hie hHl
      have g2 : 0 + (i : Int) < 2 ^ 62 := Int.lt_trans g1 (by clear h8; omega)
      simp only [LCg.Off3] at h7
      clear F9 N10 R9
      (repeat' (first | (k_unfold; (try dsimp only)) | (k_end; wrow_close) | with_reducible ((with_reducible show wpAny _ _ (compareOp CmpOp.NotEq (Value.ref _) (Value.ref _)) _ _ _); k_dflt (refine' ne_ints_nil ?N ?ha ?hb ?hi ?hu ?_; (case N => k_asm); (case ha => k_mem); (case hb => k_mem); (case hi => assumption); (case hu => ke_room))) | with_reducible ((with_reducible show wpAny _ _ (eval (PySem.Expr.ListComp _ _ _ _ ) _) _ _ _); k_dflt (refine LCt.ListComp_T (F₀ := by k_asm) (by with_unfolding_all rfl) (by decide) (by rfl) (by decide) (by rfl) ?_)) | with_reducible ((with_reducible show wpAny _ _ (exec (PySem.Stmt.For _ _ _ _ _) _) _ _ _); (rename Fr _ _ _ _ => lFq9); (with_unfolding_all refine' For_invVF lFq9 ?k1 ?k2 ?_; (case k1 => exact rfl); (case k2 => exact rfl); k_whole)) | walk1 | (dsimp only; walk1) | (leave1; (try dsimp only)) | fail))
      unfold Halt
      rename Fr _ _ _ _ => F5
      rename News _ _ _ _ => N5
      simp only [Int.zero_add, Int.toNat_natCast]
      exact LCg.CompEnd.intro F5 N5 _ (fun p hp => hp) h7' trivial ⟨rfl, by rw [extraL_succ]; exact ints_snoc hI⟩
    case fin =>
      rintro ys nw ⟨rfl, hI⟩
      intro D h tk F3 N3 O3
      rw [show (st - 0).toNat = st.toNat by omega] at hI
      have hIl := hI.length
      have hel : (extraL (highL ds st) st st.toNat).length = st.toNat := by simp [extraL]
      clear F9 N10 R9
      have N4 : News _ _ h ((D, W.listOf ys.toArray ys.length) :: _) := N3
      clear N3
      (repeat' (first | (k_unfold; (try dsimp only)) | (k_end; wrow_close) | with_reducible ((with_reducible show wpAny _ _ (compareOp CmpOp.NotEq (Value.ref _) (Value.ref _)) _ _ _); k_dflt (refine' ne_ints_nil ?N ?ha ?hb ?hi ?hu ?_; (case N => k_asm); (case ha => k_mem); (case hb => k_mem); (case hi => assumption); (case hu => ke_room))) | with_reducible ((with_reducible show wpAny _ _ (eval (PySem.Expr.ListComp _ _ _ _ ) _) _ _ _); k_dflt (refine LCt.ListComp_T (F₀ := by k_asm) (by with_unfolding_all rfl) (by decide) (by rfl) (by decide) (by rfl) ?_)) | with_reducible ((with_reducible show wpAny _ _ (exec (PySem.Stmt.For _ _ _ _ _) _) _ _ _); (rename Fr _ _ _ _ => lFq9); (with_unfolding_all refine' For_invVF lFq9 ?k1 ?k2 ?_; (case k1 => exact rfl); (case k2 => exact rfl); k_whole)) | walk1 | (dsimp only; walk1) | (leave1; (try dsimp only)) | fail))
      unfold Halt
      rename Fr _ _ _ _ => F6
      rename News _ _ _ _ => N6
      refine LCt.CompSrcT.ledger (its := ys.toArray) (by rfl) F6 N6 (.head _) (by rw [sizeLine_eq, List.size_toArray]; omega) (fun g => ?_)
      refine restT_inv ys.toArray.size (fun i zs nw => nw = _ ∧ IntsAre zs (badL ((extraL (highL ds st) st st.toNat).take i))) ?turn2 ?fin2 ys.toArray.size 0 [] _ (by omega) ⟨rfl, .nil⟩
      case turn2 =>
        rintro i zs nw v I oI C oC D2 m₂ h tk E' hi4 ⟨rfl, hZ⟩ hv h3 h4 h5 h6 h7 h8
        have h7' := h7
        simp only [LCg.Off3] at h7
        obtain ⟨t9, hlt9, rfl⟩ := ints_at hI hv
        have htk9 := take_succ_getD hlt9
        generalize (extraL (highL ds st) st st.toNat).getD i 0 = z9 at *
        clear F6 N6
        (repeat' (first | (k_unfold; (try dsimp only)) | (k_end; wrow_close) | with_reducible ((with_reducible show wpAny _ _ (compareOp CmpOp.NotEq (Value.ref _) (Value.ref _)) _ _ _); k_dflt (refine' ne_ints_nil ?N ?ha ?hb ?hi ?hu ?_; (case N => k_asm); (case ha => k_mem); (case hb => k_mem); (case hi => assumption); (case hu => ke_room))) | with_reducible ((with_reducible show wpAny _ _ (eval (PySem.Expr.ListComp _ _ _ _ ) _) _ _ _); k_dflt (refine LCt.ListComp_T (F₀ := by k_asm) (by with_unfolding_all rfl) (by decide) (by rfl) (by decide) (by rfl) ?_)) | with_reducible ((with_reducible show wpAny _ _ (exec (PySem.Stmt.For _ _ _ _ _) _) _ _ _); (rename Fr _ _ _ _ => lFq9); (with_unfolding_all refine' For_invVF lFq9 ?k1 ?k2 ?_; (case k1 => exact rfl); (case k2 => exact rfl); k_whole)) | walk1 | (dsimp only; walk1) | (leave1; (try dsimp only)) | fail))
        · rename Fr _ _ _ _ => F5
          rename News _ _ _ _ => N5
          exact LCg.CompEnd.intro F5 N5 _ (fun p hp => .tail _ hp) h7' (.inr ⟨_, .head _, rfl, _, rfl⟩) ⟨rfl, by rw [htk9, badL_yes (by assumption)]; exact hZ⟩
        · rename Fr _ _ _ _ => F5
          rename News _ _ _ _ => N5
          exact LCg.CompEnd.intro F5 N5 _ (fun p hp => .tail _ hp) h7' (.inr ⟨_, .head _, rfl, _, rfl⟩) ⟨rfl, by rw [htk9, badL_no (by assumption)]; exact ints_snoc hZ⟩
      case fin2 =>
        rintro zs nw ⟨rfl, hZ⟩
        intro D2 h tk F7 N7 O7
        rw [List.take_of_length_le (by rw [List.size_toArray]; omega)] at hZ
        have hZs := hZ.length
        clear F6 N6
        have N8 : News _ _ h ((D2, W.listOf zs.toArray zs.length) :: _) := N7
        clear N7
        (repeat' (first | (k_unfold; (try dsimp only)) | (k_end; wrow_close) | with_reducible ((with_reducible show wpAny _ _ (compareOp CmpOp.NotEq (Value.ref _) (Value.ref _)) _ _ _); k_dflt (refine' ne_ints_nil ?N ?ha ?hb ?hi ?hu ?_; (case N => k_asm); (case ha => k_mem); (case hb => k_mem); (case hi => assumption); (case hu => ke_room))) | with_reducible ((with_reducible show wpAny _ _ (eval (PySem.Expr.ListComp _ _ _ _ ) _) _ _ _); k_dflt (refine LCt.ListComp_T (F₀ := by k_asm) (by with_unfolding_all rfl) (by decide) (by rfl) (by decide) (by rfl) ?_)) | with_reducible ((with_reducible show wpAny _ _ (exec (PySem.Stmt.For _ _ _ _ _) _) _ _ _); (rename Fr _ _ _ _ => lFq9); (with_unfolding_all refine' For_invVF lFq9 ?k1 ?k2 ?_; (case k1 => exact rfl); (case k2 => exact rfl); k_whole)) | walk1 | (dsimp only; walk1) | (leave1; (try dsimp only)) | fail))
        · rename News _ _ _ _ => N5
          rw [if_pos (by assumption)] at hret
          exact hret D ys _ _ hI (off1_mem O3.2.2.2.2) (by assumption) (fun p hp => N5 p (by
            rcases List.mem_cons.mp hp with rfl | hp
            · exact .tail _ (.tail _ (.head _))
            · exact .tail _ (.tail _ (.tail _ (.tail _ (.tail _ (.tail _ (.tail _ hp))))))))
        · rename News _ _ _ _ => N5
          rename _ ∧ _ => l9
          rw [if_neg (by assumption)] at hret
          exact hret _ [] _ _ .nil (fun p hp => Nat.ne_of_lt (allLt_mem l9.2.2.2.2.2.2.2 p hp)) (by assumption) (fun p hp => N5 p (by
            rcases List.mem_cons.mp hp with rfl | hp
            · exact .head _
            · exact .tail _ (.tail _ (.tail _ (.tail _ (.tail _ (.tail _ (.tail _ (.tail _ hp)))))))))
end
section
set_option linter.unusedVariables false
set_option maxRecDepth 100000
set_option maxHeartbeats 4000000
theorem app_len (a b : PySem.Str) : (a ++ b).length = a.length + b.length := Array.size_append
theorem mul_len {n : Int} (h0 : 0 ≤ n) (h1 : n ≤ 40) : (Txt.mul (PySem.Str.ofString " ") n).length ≤ 40 := by
  have h : ∀ n : Nat, n < 41 → (Txt.mul (PySem.Str.ofString " ") (n : Int)).length ≤ 40 := by decide
  have e : n = ((n.toNat : Nat) : Int) := by omega
  rw [e]; exact h _ (by omega)
noncomputable def wsN (x : PySem.Str) : List Int × Int := ((wsRun x.cps.toList ([], 0, 0, 0)).1, (wsRun x.cps.toList ([], 0, 0, 0)).2.1)
theorem wsN_eq {x : PySem.Str} {cs : List Int} {b n nt : Int} (h : wsRun x.cps.toList ([], 0, 0, 0) = (cs, b, n, nt)) : wsN x = (cs, b) := by unfold wsN; rw [h]
theorem apart1 {c1 c2 : List Int} {b1 b2 : Int} (h : (c1, b1) ≠ (c2, b2)) : (decide (c1 = c2 ∧ b1 = b2) == false) = true := by
  rw [decide_eq_false (fun q => h (by rw [q.1, q.2]))]; rfl
theorem apart2 {c1 c2 : List Int} {b1 b2 x y : Int} (h : decide ((c1, b1) = (c2, b2)) = decide (x = y)) : (decide (c1 = c2 ∧ b1 = b2) == (x == y)) = true := by
  have e : decide (c1 = c2 ∧ b1 = b2) = decide ((c1, b1) = (c2, b2)) := by simp [Prod.mk.injEq]
  have e2 : (x == y) = decide (x = y) := rfl
  rw [e, h, e2, beq_self_eq_true]
theorem con_apart {w : World} {p : Program} {loose : List PySem.Str} {mean : ExcName → Option Value} {mg mb : PySem.Str → Option Value} (dp un : Nat) (gd : Option (List Code)) (cn : PySem.Str) (cs : Scope) (a : Addr) (ccd : Value) (cl : List (PySem.Str × Addr)) (outer : List Env) (A₀ : Around) (base h₀ : Heap) (L : Addr) (m : PySem.Str → Option Value) (news : List (Addr × Obj)) (s : Shared) (o : Ws) (line : PySem.Str) (tl : Tok) (l : Addr) (vs : List Value) (n : Nat) (ds : List Int) (b : Int)
    (Q E : Value → Shared → Prop) (B : Below A₀ base outer h₀) (F : Fr h₀ L s.heap m) (X : (K w.params).In h₀) (N : News h₀ L s.heap news) (T : Top p loose mean mg mb h₀) (hk : cs.kind = .function) (hd : dp + 8 < recursionLimit) (hu : un + 64 < cLine) (hu2 : un + 160 < cLine) (hd2 : dp + 30 < recursionLimit) (hmo : ∀ p ∈ wsLed w.params o, p ∈ news) (hio : IntsAre o.its o.cs) (hm : (l, W.listOf vs.toArray n) ∈ news) (hi : IntsAre vs ds) (hp : 0 < ds.length) (h9 : ds.length ≤ 20) (hlast : ds.getLast? = some b) (hb0 : 0 ≤ b) (hb1 : b ≤ 8) (ha0 : 0 ≤ ds.getD 0 0) (ha1 : ds.getD 0 0 ≤ 8) (hll : line.length ≤ 100) (hq1 : decide (wsN (line ++ Txt.mul (.ofString " ") (4 * ds.getD 0 0 + 1) ++ .ofString "\t") = wsN (line ++ Txt.mul (.ofString " ") (4 * b + 1) ++ .ofString "\t")) = decide (ds.getD 0 0 = b)) (hq2 : (o.cs, o.b) ≠ wsN (line ++ .ofString "  "))
    (hret : ∀ h' tk', Fr h₀ L h' m → News h₀ L h' news → Q (.bool true) { s with heap := h', toks := tk' }) :
    wpAny (model pw w) (ktrTop dp un gd cn cs L a ccd cl outer) (call (.ref 271) [.ref o.I, .str line tl, .ref l]) Q E s := by
  have N2 : News h₀ L s.heap ((l, W.listOf vs.toArray n) :: news) := fun p hp => N p (by
    simp only [List.mem_cons] at hp
    rcases hp with rfl | hp
    · exact hm
    · exact hp)
  clear N
  have N3 : News h₀ L s.heap (wsLed w.params o ++ ((l, W.listOf vs.toArray n) :: news)) := fun p hp => (List.mem_append.mp hp).elim (fun hp => N2 p (.tail _ (hmo p hp))) (fun hp => N2 p hp)
  simp only [wsLed, List.cons_append, List.nil_append] at N3
  clear N2
  have hz := hi.length
  have hbe : ds.getD (-1 + (ds.length : Int)).toNat 0 = b := by
    rw [List.getLast?_eq_getElem?] at hlast
    rw [List.getD_eq_getElem?_getD, show (-1 + (ds.length : Int)).toNat = ds.length - 1 by omega, hlast]; rfl
  clear hlast
  subst hbe
  change 0 ≤ ds.getD (Int.toNat 0) 0 at ha0
  change ds.getD (Int.toNat 0) 0 ≤ 8 at ha1
  change decide (wsN (line ++ Txt.mul (.ofString " ") (4 * ds.getD (Int.toNat 0) 0 + 1) ++ .ofString "\t") = _) = decide (ds.getD (Int.toNat 0) 0 = ds.getD (-1 + (ds.length : Int)).toNat 0) at hq1
  have hx1 : (line ++ Txt.mul (PySem.Str.ofString " ") (4 * ds.getD (Int.toNat 0) 0 + 1) ++ PySem.Str.ofString "\t").length ≤ 200 := by
    rw [app_len, app_len]
    have h1 := mul_len (n := 4 * ds.getD (Int.toNat 0) 0 + 1) (by omega) (by omega)
    have h2 : (PySem.Str.ofString "\t").length = 1 := rfl
    omega
  have hx2 : (line ++ Txt.mul (PySem.Str.ofString " ") (4 * ds.getD (-1 + (ds.length : Int)).toNat 0 + 1) ++ PySem.Str.ofString "\t").length ≤ 200 := by
    rw [app_len, app_len]
    have h1 := mul_len (n := 4 * ds.getD (-1 + (ds.length : Int)).toNat 0 + 1) (by omega) (by omega)
    have h2 : (PySem.Str.ofString "\t").length = 1 := rfl
    omega
  have hx3 : (line ++ PySem.Str.ofString "  ").length ≤ 200 := by
    rw [app_len]
    have h2 : (PySem.Str.ofString "  ").length = 2 := rfl
    omega
  refine wpAny_call ?_
  k_dflt (refine' code_defL ?k1 ?k2 ?k3 ?k4 ?k5 ?kA ?kF ?kK ?k6 ?kp ?kb ?ks ?k7 ?k8 ?k9 ?kB ?_ ?c2 ?c3 ?c4 ?c5; (case kA => exact rfl); (case kF => exact rfl); (case kK => assumption); (case k1 => k_asm); (case k2 => k_asm); (case k3 => k_asm); (case k4 => k_asm); (case k5 => k_asm); (case k6 => k_is); (case kp => conv => lhs; whnf); (case kb => conv => lhs; whnf); (case ks => conv => lhs; whnf); (case k7 => k_is); (case k8 => ktr_room); (case k9 => exact BindsTo.of_eq rfl); (case c5 => decide); (case kB => exact locs rfl); (case c2 => exact rfl); (case c3 => exact rfl); (case c4 => exact rfl); k_whole; intro gq9 Lq9 hq9 FGq9 Fq9 Nq9 Bq9 Xq9 Tq9; (try dsimp only); (try k_fold))
  (repeat' (first | (k_unfold; (try dsimp only)) | (k_end; wrow_close) | with_reducible ((with_reducible show wpAny _ _ (call (Value.ref _) _) _ _ _); k_dflt (refine' con_equal _ _ _ _ _ _ _ _ _ _ _ _ _ _ _ _ _ _ _ _ ?kB ?kF ?kX ?kN ?kT ?kk ?kd ?ku ?e1 ?e2 ?e3 ?e4 ?e5 ?_; (case kB => k_asm); (case kF => k_asm); (case kX => k_asm); (case kN => k_asm); (case kT => k_asm); (case kk => first | assumption | rfl); (case kd => ktr_room); (case ku => ke_room); (case e1 => exact ws_mem (by k_mem) (by k_mem) (by k_mem) (by k_mem)); (case e2 => exact ws_mem (by k_mem) (by k_mem) (by k_mem) (by k_mem)); (case e3 => assumption); (case e4 => assumption); (case e5 => first | omega | (dsimp only [ktrTop]; omega) | ktr_units)); intro hq9 tkq9 tq9 Fq9 Nq9; (try k_sweep)) | with_reducible ((with_reducible show wpAny _ _ (call (Value.ref _) _) _ _ _); k_dflt (refine' con_init _ _ _ _ _ _ _ _ _ _ _ _ _ _ _ _ _ _ _ _ ?kB ?kF ?kX ?kN ?kT ?kk ?kd ?ku ?e1 ?_; (case kB => k_asm); (case kF => k_asm); (case kX => k_asm); (case kN => k_asm); (case kT => k_asm); (case kk => first | assumption | rfl); (case kd => ktr_room); (case ku => ke_room); (case e1 => assumption)); intro oq9 hq9 tkq9 hIq9 hloq9 hrunq9 Fq9 Nq9; (try k_sweep); (simp only [wsLed, List.cons_append, List.nil_append] at Nq9)) | with_reducible ((with_reducible show wpAny _ _ (subscriptTail _ _ (Value.ref _) (Value.int _ _)) _ _ _); (with_unfolding_all refine' list_last ?N ?hm ?hi ?h0 ?h1 ?_ ?k6 ?k7; (case h0 => rfl); (case N => k_asm); (case hm => k_mem); (case hi => assumption); (case h1 => assumption); (case k6 => with_unfolding_all rfl); (case k7 => intro _; with_unfolding_all rfl); k_whole; intro tIq9)) | with_reducible ((with_reducible show wpAny _ _ (subscriptTail _ _ (Value.ref _) (Value.int _ _)) _ _ _); (with_unfolding_all refine' list_int ?N ?hm ?hi ?h0 ?h1 ?hz ?_ ?k6 ?k7; (case N => k_asm); (case hm => k_mem); (case hi => assumption); (case h0 => first | assumption | omega); (case h1 => first | assumption | omega); (case hz => first | assumption | omega); (case k6 => with_unfolding_all rfl); (case k7 => intro _; with_unfolding_all rfl); k_whole; intro tIq9)) | walk1 | (dsimp only; walk1) | (leave1; (try dsimp only)) | fail))
  · rename wsRun _ _ = _ => r3
    rw [apart1 (by rw [← wsN_eq r3]; exact hq2)]
    rename News _ _ _ _ => N9
    exact hret _ _ (by assumption) (fun p hp => N9 p (by repeat (first | exact hp | apply List.mem_cons_of_mem)))
  · rename wsRun _ _ = _ => r2
    have e2 := wsN_eq r2
    clear r2
    rename wsRun _ _ = _ => r1
    have e1 := wsN_eq r1
    rw [apart2 (by rw [← e1, ← e2]; exact hq1)]
    rename News _ _ _ _ => N9
    exact hret _ _ (by assumption) (fun p hp => N9 p (by repeat (first | exact hp | apply List.mem_cons_of_mem)))
end
section
set_option linter.unusedVariables false
set_option maxRecDepth 100000
/-- texts that are piles of such sizes -/
inductive PilesAre : List PySem.Str → List Int → Prop
  | nil : PilesAre [] []
  | cons {x nm s xs ss} : nm ∈ names7 → x = pileT s nm → PilesAre xs ss → PilesAre (x :: xs) (s :: ss)
theorem PilesAre.snoc {x nm : PySem.Str} {s : Int} : ∀ {xs : List PySem.Str} {ss : List Int}, PilesAre xs ss → nm ∈ names7 → x = pileT s nm → PilesAre (xs ++ [x]) (ss ++ [s]) := by
  intro xs ss h h1 h2
  induction h with
  | nil => exact .cons h1 h2 .nil
  | cons a b _ ih => exact .cons a b ih
theorem PilesAre.length : ∀ {xs : List PySem.Str} {ss : List Int}, PilesAre xs ss → xs.length = ss.length := by
  intro xs ss h
  induction h with
  | nil => rfl
  | cons _ _ _ ih => rw [List.length_cons, List.length_cons, ih]
theorem PilesAre.append : ∀ {xs : List PySem.Str} {ss : List Int} {ys : List PySem.Str} {ts : List Int}, PilesAre xs ss → PilesAre ys ts → PilesAre (xs ++ ys) (ss ++ ts) := by
  intro xs ss ys ts h k
  induction h with
  | nil => exact k
  | cons a b _ ih => exact .cons a b ih
theorem pile_ok {s : Int} {nm : PySem.Str} (h0 : 0 ≤ s) (h8 : s ≤ 8) (hn : nm ∈ names7) : PyData.strOk (pileT s nm) = true ∧ (pileT s nm).length ≤ 40 := by
  have h : ∀ n : Nat, n < 9 → ∀ nm ∈ names7, PyData.strOk (pileT (n : Int) nm) = true ∧ (pileT (n : Int) nm).length ≤ 40 := by decide +kernel
  have e : s = ((s.toNat : Nat) : Int) := by omega
  rw [e]; exact h _ (by omega) nm hn
theorem PilesAre.ok : ∀ {xs : List PySem.Str} {ss : List Int}, PilesAre xs ss → (∀ s ∈ ss, 0 ≤ s ∧ s ≤ 8) → ∀ x ∈ xs, PyData.strOk x = true ∧ x.length ≤ 40 := by
  intro xs ss k
  induction k with
  | nil => intro _ x h; cases h
  | cons a b _ ih =>
    intro hs x h
    rcases List.mem_cons.mp h with rfl | h
    · subst b
      exact pile_ok (hs _ (.head _)).1 (hs _ (.head _)).2 a
    · exact ih (fun s q => hs s (.tail _ q)) x h
theorem sub_last {α : Type} {l m : List α} {a : α} : ∀ q ∈ l ++ (m ++ [a]), q ∈ a :: (l ++ m) := by
  intro q hq
  rcases List.mem_append.mp hq with h | h
  · exact .tail _ (List.mem_append_left _ h)
  · rcases List.mem_append.mp h with h | h
    · exact .tail _ (List.mem_append_right _ h)
    · rw [List.mem_singleton.mp h]; exact .head _
theorem off_last {I C D : Addr} {l m : List (Addr × Obj)} {a : Addr × Obj} (h : ∀ p ∈ l ++ m, p.1 ≠ I ∧ p.1 ≠ C ∧ p.1 ≠ D) (h1 : @LT.lt Nat _ I a.1) (h2 : @LT.lt Nat _ C a.1) (h3 : @LT.lt Nat _ D a.1) : LCg.Off3 I C D (l ++ (m ++ [a])) := LCg.Off3.of fun p hp => by
  rcases List.mem_cons.mp (sub_last p hp) with rfl | hp
  · exact ⟨Nat.ne_of_gt h1, Nat.ne_of_gt h2, Nat.ne_of_gt h3⟩
  · exact h p hp
theorem news_gen {h₀ h : Heap} {L : Addr} {l : List (Addr × Obj)} (N : News h₀ L h l) : ∃ b, b = l ∧ News h₀ L h b := ⟨l, rfl, N⟩
theorem news_cast {h₀ h : Heap} {L : Addr} {l l' : List (Addr × Obj)} (N : News h₀ L h l) (e : l' = l) : News h₀ L h l' := e ▸ N
theorem gt_ne {l : List (Addr × Obj)} {a c : Nat} (h : ∀ q ∈ l, @LT.lt Nat _ a q.1) (hc : c ≤ a) : ∀ q ∈ l, q.1 ≠ c := fun q hq e => by
  have h1 := h q hq
  rw [e] at h1
  exact absurd h1 (Nat.not_lt.mpr hc)
theorem fr_ovr {h₀ h : Heap} {L : Addr} {a : PySem.Str} {v : Value} {m : PySem.Str → Option Value} (F : Fr h₀ L h (fun y => if y = a then some v else m y)) : Fr h₀ L h (ovr [(a, v)] m) := by
  have e : ovr [(a, v)] m = fun y => if y = a then some v else m y := by
    funext y
    unfold ovr
    rw [List.lookup_cons, List.lookup_nil]
    by_cases q : y = a
    · subst q; rw [beq_self_eq_true, if_pos rfl]
    · rw [beq_eq_false_iff_ne.mpr q, if_neg q]
  rw [e]; exact F
theorem news_take {h₀ h : Heap} {L : Addr} (a : List (Addr × Obj)) {r : List (Addr × Obj)} (N : News h₀ L h (a ++ r)) : News h₀ L h a := fun p hp => N p (List.mem_append_left _ hp)
/-- a made pair of one text -/
noncomputable abbrev Pr := Addr × PySem.Str × Tok × Tok
noncomputable def prObj (p : Pr) : Addr × Obj := (p.1, { cls := .type "tuple", data := .seq #[.str p.2.1 p.2.2.1, .str p.2.1 p.2.2.2] })
section
variable {prog : Program} {w : World} {A : Around} {E : Value → Shared → Prop} {s : Shared} {h₀ : Heap} {L a b : Addr} {news : List (Addr × Obj)} {xs ys : List Value} {ns ms : List PySem.Str} {n1 n2 : Nat} {Q : Value → Shared → Prop}
theorem strs_carried : ∀ {vs : List Value} {ns : List PySem.Str}, StrsAre vs ns → CarriedAll vs (ns.map PyData.str) := by
  intro vs ns h
  induction h with
  | nil => exact .nil
  | cons x t _ ih => exact .cons (.str x t) ih
theorem strs_lay : ∀ ns : List PySem.Str, (∀ x ∈ ns, PyData.strOk x = true) → PyData.canLayAll0 (ns.map PyData.str) = true
  | [], _ => rfl
  | x :: r, h => by simp [PyData.canLayAll0, PyData.canLay0, strs_lay r (fun y hy => h y (.tail _ hy)), h x (.head _)]
theorem strs_depth : ∀ ns : List PySem.Str, PyData.depthAll (ns.map PyData.str) = 0
  | [] => rfl
  | _ :: r => by simp [PyData.depthAll, PyData.depth, strs_depth r]
theorem strs_shaped (ns : List PySem.Str) (h : ∀ x ∈ ns, PyData.strOk x = true) : SeqAt.shaped (.list (ns.map PyData.str)) = true := by
  simp [SeqAt.shaped, PyData.canLay0, PyData.depth, strs_lay ns h, strs_depth]
theorem strs_eqvAll : ∀ ns ms : List PySem.Str, PyData.eqvAll (ns.map PyData.str) (ms.map PyData.str) = decide (ns = ms)
  | [], [] => by simp [PyData.eqvAll]
  | [], _ :: _ => by simp [PyData.eqvAll]
  | _ :: _, [] => by simp [PyData.eqvAll]
  | a :: r, b :: t => by
    simp only [List.map_cons, PyData.eqvAll, PyData.eqv, strs_eqvAll r t]
    by_cases h : a = b <;> by_cases h' : r = t <;> simp [h, h']
theorem ne_strs_led (N : News h₀ L s.heap news) (ha : (a, W.listOf xs.toArray n1) ∈ news) (hb : (b, W.listOf ys.toArray n2) ∈ news) (hi : StrsAre xs ns) (hj : StrsAre ys ms) (ho1 : ∀ x ∈ ns, PyData.strOk x = true) (ho2 : ∀ x ∈ ms, PyData.strOk x = true) (hu : A.units + 64 < cLine) (h : Q (.bool (!decide (ns = ms))) s) : wpAny (model prog w) A (compareOp .NotEq (.ref a) (.ref b)) Q E s :=
  ne_dataH (reads_newData (N.isList ha) (strs_carried hi)) (reads_newData (N.isList hb) (strs_carried hj)) (strs_shaped _ ho1) (strs_shaped _ ho2) hu (by
    show Q (.bool (!PyData.eqv (.list (ns.map .str)) (.list (ms.map .str)))) s
    simp only [PyData.eqv]
    rw [strs_eqvAll]; exact h)
end
section
variable {prog : Program} {w : World} {A : Around} {E : Value → Shared → Prop} {s : Shared} {h₀ : Heap} {L a b : Addr} {news : List (Addr × Obj)} {xs ys : List Value} {ns : List PySem.Str} {n1 n2 : Nat} {Q : Value → Shared → Prop}
theorem ne_strs_same (N : News h₀ L s.heap news) (ha : (a, W.listOf xs.toArray n1) ∈ news) (hb : (b, W.listOf ys.toArray n2) ∈ news) (hi : StrsAre xs ns) (hj : StrsAre ys ns) (ho : ∀ x ∈ ns, PyData.strOk x = true) (hu : A.units + 64 < cLine) (h : Q (.bool false) s) : wpAny (model prog w) A (compareOp .NotEq (.ref a) (.ref b)) Q E s :=
  ne_strs_led N ha hb hi hj ho ho hu (by rw [decide_eq_true rfl]; exact h)
end
theorem pr_at {ps : List Pr} {zs : List Value} {i : Nat} {v : Value} (hz : zs = ps.map fun p => .ref p.1) (h : zs.toArray[i]? = some v) : ∃ p, ps[i]? = some p ∧ v = .ref p.1 := by
  subst hz
  have h' : (ps.map fun p => Value.ref p.1)[i]? = some v := by simpa using h
  rw [List.getElem?_map] at h'
  cases e : ps[i]? with
  | none => rw [e] at h'; cases h'
  | some p => rw [e] at h'; exact ⟨p, rfl, (Option.some.inj h').symm⟩
theorem strs_snoc_at {ps : List Pr} {i : Nat} {p : Pr} {xs : List Value} {t : Tok} (hS : StrsAre xs ((ps.map (·.2.1)).take i)) (h : ps[i]? = some p) : StrsAre (xs ++ [.str p.2.1 t]) ((ps.map (·.2.1)).take (i + 1)) := by
  rw [List.take_add_one, List.getElem?_map, h]
  exact strs_snoc hS
end
section
set_option linter.unusedVariables false
set_option maxRecDepth 100000
open LCg
/- comprehensions whose turns know that the tokens are told: 0 < tk -/
section
variable {prog : Program} {w : World} {A : Around} {E : Value → Shared → Prop} {s : Shared} {h₀ : Heap} {L : Addr} {m : PySem.Str → Option Value} {env : Env}
noncomputable def KSt (h₀ : Heap) (L : Addr) (m : PySem.Str → Option Value) (s : Shared) (own news : List (Addr × Obj)) (p : Prop) (s' : Shared) : Prop :=
  ∃ h tk, s' = { s with heap := h, toks := tk } ∧ Fr h₀ L h m ∧ News h₀ L h (own ++ news) ∧ p
theorem KSt.intro {s : Shared} {own news : List (Addr × Obj)} {p : Prop} {h : Heap} {tk : Nat} (F : Fr h₀ L h m) (N : News h₀ L h (own ++ news)) (hp : p) : KSt h₀ L m s own news p { s with heap := h, toks := tk } := ⟨h, tk, rfl, F, N, hp⟩
noncomputable def tests (ifs : List PySem.Expr) (env : Env) : Sem Bool := forIn ifs true fun c r => if r = true then do let ok ← isTrue c env (eval c env); pure (ForInStep.yield ok) else pure (ForInStep.yield r)
noncomputable def Three (news : List (Addr × Obj)) (I C D : Addr) : Prop := Off3 I C D news ∧ (@Ne Nat I C) ∧ (@Ne Nat I D) ∧ (@Ne Nat C D)
/-- one turn -/
noncomputable def KTurn (prog : Program) (w : World) (A : Around) (h₀ : Heap) (L : Addr) (m : PySem.Str → Option Value) (env : Env) (ifs : List PySem.Expr) (elt : PySem.Expr) (x : PySem.Str) (scope : Scope) (cl : List (PySem.Str × Addr)) (s : Shared) (news : List (Addr × Obj)) (n : Nat) (P : Nat → Value → Prop) (Inv : Nat → List Value → Prop) : Prop :=
  ∀ i ys v I oI C oC D m₂ h tk (E' : Value → Shared → Prop), i < n → P i v → 0 < tk → Inv i ys → NsObj oC m₂ → m₂ x = some v → Fr h₀ L h m → News h₀ L h ([(I, oI), (C, oC), (D, lst ys)] ++ news) → Three news I C D →
    wpAny (model prog w) A (tests ifs (compEnvC scope cl C env)) (fun ok s₃ => if ok = true then wpAny (model prog w) A (eval elt (compEnvC scope cl C env)) (fun y s₄ => KSt h₀ L m s [(I, oI), (C, oC), (D, lst ys)] news (Inv (i + 1) (ys ++ [y])) s₄) E' s₃ else KSt h₀ L m s [(I, oI), (C, oC), (D, lst ys)] news (Inv (i + 1) ys) s₃) E' { s with heap := h, toks := tk }
theorem block_K {elt iter : PySem.Expr} {x : PySem.Str} {px : Pos} {ifs : List PySem.Expr} {scope : Scope} {cl : List (PySem.Str × Addr)} {pos : Pos} {I : Addr} {fp : List Addr} {n : Nat} {P : Nat → Value → Prop} {St : Nat → Heap → Prop} {news : List (Addr × Obj)} {Inv : Nat → List Value → Prop}
    {RR : Value → Addr → Result → Shared → Prop} (W : Walks prog w A I fp [I] n P St) (hsz : n ≤ sizeLine) (hIo : ∀ i h, St i h → ∃ o, h.get? I = some o)
    (hkeep : ∀ i h h', St i h → h'.get? I = h.get? I → News h₀ L h' news → St i h')
    (hcell : ∀ y ∈ scope.names, y.2 ≠ .cell) (hkind : scope.kind = .function) (hx : scope.names.lookup x = some .local) (hst : St 0 s.heap) (hfp : ∀ b ∈ fp, b < s.heap.objs.size)
    (F : Fr h₀ L s.heap m) (N : News h₀ L s.heap news) (hIL : L ≠ I) (hI₀ : h₀.get? I = none) (off : ∀ p ∈ news, p.1 ≠ I) (ht : 0 < s.toks)
    (hlen : ∀ i ys, Inv i ys → ys.length ≤ i) (h0 : Inv 0 []) (turn : KTurn prog w A h₀ L m env ifs elt x scope cl s news n P Inv)
    (hRR : ∀ D C h tk m' ys, Fr h₀ L h m → News h₀ L h ((D, lst ys) :: news) → (∀ p ∈ news, p.1 ≠ D) → h.Ns C m' → h₀.get? C = none → C ≠ L → C ≠ D → (∀ p ∈ news, p.1 ≠ C) → Inv n ys → RR (.ref D) C (.ok .next) { s with heap := h, toks := tk }) :
    wpAny (model prog w) A (newList []) (fun acc s₃ => wpAny (model prog w) A (newFunctionEnv scope env.globals cl [] env.qual none .none (some env)) (fun cenv s₄ =>
      codeAny (model prog w) A (.compStart (.ListComp elt [⟨.Name x px, iter, ifs, 0⟩] scope pos) 0 (.ref I) acc { cenv with scope := relabel scope env }) (RR acc cenv.locals) s₄) E s₃) E s := by
  refine wpAny_newObj_type (wpAny_newFunctionEnv hcell (by intro y hy; simp at hy) (fun g hns hsb => ?_) hkind)
  dsimp only at hns hsb ⊢
  have hD : s.heap.objs.size = s.heap.objs.size := rfl
  generalize hH : s.heap.push { cls := .type "list", dict := none, data := .seq ([] : List Value).toArray } = H at hns hsb ⊢
  have hC : H.objs.size = s.heap.objs.size + 1 := by rw [← hH, Heap.size_push]
  have lt2 : ∀ b, b < s.heap.objs.size → b ≠ H.objs.size ∧ b ≠ s.heap.objs.size := fun b hb => ⟨by rw [hC]; exact Nat.ne_of_lt (Nat.lt_succ_of_lt hb), Nat.ne_of_lt hb⟩
  have up : ∀ b o, s.heap.get? b = some o → g.get? b = some o := fun b o e => hsb.extBut b o (lt2 b (Heap.lt_size e)).1 (Heap.get?_push_of_some _ (hH ▸ Heap.get?_push_of_some _ e))
  have none0 : ∀ a, s.heap.objs.size ≤ a → h₀.get? a = none := fun a ha => by
    cases e : h₀.get? a with
    | none => rfl
    | some o => exact absurd (Heap.lt_size (F.keep a o e)) (Nat.not_lt.mpr ha)
  have hDC : s.heap.objs.size ≠ H.objs.size := by rw [hC]; exact Nat.ne_of_lt (Nat.lt_succ_self _)
  have hIlt := hfp I (W.sub I (List.mem_singleton.mpr rfl))
  have hLlt : L < s.heap.objs.size := F.ns.lt
  have nD : s.heap.objs.size ∉ fp := fun q => Nat.lt_irrefl _ (hfp _ q)
  have nC : H.objs.size ∉ fp := fun q => (lt2 _ (hfp _ q)).1 rfl
  have three : Three news I H.objs.size s.heap.objs.size := ⟨Off3.of fun p hp => ⟨off p hp, lt2 _ (Heap.lt_size (N p hp).1)⟩, (lt2 _ hIlt).1, (lt2 _ hIlt).2, Ne.symm hDC⟩
  have nm := three.1.mem
  have zD : (h₀.get? s.heap.objs.size) = none := none0 _ (Nat.le_refl _)
  have zC : (h₀.get? H.objs.size) = none := none0 _ (by rw [hC]; exact Nat.le_succ _)
  have LD := (lt2 L hLlt).2
  have LC := (lt2 L hLlt).1
  have start : codeAny (model prog w) A (.compLoop (.ListComp elt [⟨.Name x px, iter, ifs, 0⟩] scope pos) 0 (.ref I) (.ref s.heap.objs.size) (compEnvC scope cl H.objs.size env)) (RR (.ref s.heap.objs.size) H.objs.size) { s with heap := g, toks := s.toks + ([] : List (PySem.Str × Value)).length } := by
    refine codeAny_compLoop_tests (fun k s' => ∃ h tk i ys m', s' = { s with heap := h, toks := tk } ∧ 0 < tk ∧ k = n + 1 - i ∧ i ≤ n ∧ Inv i ys ∧ St i h ∧ h.Ns H.objs.size m' ∧ Fr h₀ L h m ∧ News h₀ L h ((s.heap.objs.size, lst ys) :: news)) ?_ (n + 1)
      ⟨g, _, 0, [], _, rfl, ht, rfl, Nat.zero_le _, h0, W.frame _ _ _ hst fun b _ o e => up b o e, hns, F.keeps up, fun p hp => ?_⟩
    · rintro k s' ⟨h, tk, i, ys, m', rfl, htk, rfl, hi, hinv, hs', hn, F', N'⟩
      have Nn : News h₀ L h news := fun p hp => N' p (.tail _ hp)
      by_cases hlt : i < n
      · refine wpAny_with_toks (n := 1) htk (W.item i _ _ _ hlt hs' fun v h₂ tk₂ hP hs₂ hk => ?_)
        intro htk₂
        refine wpAny_with_toks (n := 1) htk₂ (wpAny_assign_Name (wpAny_storeName_local (lookup_relabel_local hx) (hn.at' fun o e => hk _ o (by simpa using Ne.symm three.2.1) e) (fun h₃ hn₃ hb₃ => ?_) (by simp [compEnvC, relabel, hkind])))
        intro htk₃
        have s3 : St (i + 1) h₃ := W.frame _ _ _ hs₂ fun b hb o e => hb₃.extBut b o (fun q => nC ((show b = H.objs.size from q) ▸ hb)) e
        obtain ⟨oI, eI⟩ := hIo _ _ s3
        obtain ⟨oC, eC, kC⟩ := ns_obj hn₃
        have F₃ : Fr h₀ L h₃ m := (fr_but F' hk hIL hI₀).change hb₃ (Ne.symm LC) zC
        have N₂ : News h₀ L h₂ ((s.heap.objs.size, lst ys) :: news) := news_but N' hk fun p hp => by
          rcases List.mem_cons.mp hp with rfl | hp
          · exact Ne.symm three.2.2.1
          · exact off p hp
        have N₃ : News h₀ L h₃ ([(I, oI), (H.objs.size, oC), (s.heap.objs.size, lst ys)] ++ news) := fun p hp => by
          rcases List.mem_cons.mp hp with rfl | hp
          · exact ⟨eI, Ne.symm hIL, hI₀⟩
          · rcases List.mem_cons.mp hp with rfl | hp
            · exact ⟨eC, Ne.symm LC, zC⟩
            · refine ⟨hb₃.extBut _ _ ?_ (N₂ p hp).1, (N₂ p hp).2⟩
              rcases List.mem_cons.mp hp with rfl | hp
              · exact hDC
              · exact (nm p hp).2.1
        refine wpAny_mono (wpAny_toks_of (n := 1) htk₃ (turn i ys v I oI H.objs.size oC s.heap.objs.size _ h₃ _ _ hlt hP htk₃ hinv kC (by simp) F₃ N₃ three)) (fun ok s₄ q => ?_) fun _ _ e => e.2
        obtain ⟨t4, q⟩ := q
        have back : ∀ {own : List (Addr × Obj)} {h' : Heap}, News h₀ L h' ([(I, oI), (H.objs.size, oC), (s.heap.objs.size, lst ys)] ++ news) → St (i + 1) h' := fun N' => hkeep _ _ _ s3 ((N' _ (.head _)).1.trans eI.symm) fun p hp => N' p (.tail _ (.tail _ (.tail _ hp)))
        cases ok with
        | false =>
          rw [if_neg Bool.false_ne_true] at q ⊢
          obtain ⟨h₅, tk₅, rfl, F₅, N₅, hI₅⟩ := q
          exact ⟨n + 1 - (i + 1), by omega, h₅, tk₅, i + 1, ys, _, rfl, t4, rfl, hlt, hI₅, back (own := []) N₅, kC.ns (N₅ _ (.tail _ (.head _))).1, F₅, fun p hp => N₅ p (.tail _ (.tail _ hp))⟩
        | true =>
          rw [if_pos rfl] at q ⊢
          refine wpAny_mono (wpAny_toks_of (n := 1) t4 q) (fun y s₅ q => ?_) fun _ _ e => e.2
          obtain ⟨t5, h₅, tk₅, rfl, F₅, N₅, hI₅⟩ := q
          have s5 := back (own := []) N₅
          have c5 := (N₅ _ (.tail _ (.head _))).1
          have d5 := (N₅ _ (.tail _ (.tail _ (.head _)))).1
          have hle := hlen _ _ hinv
          refine append_at (hsz := by show ys.toArray.size ≤ sizeLine; rw [List.size_toArray]; omega) d5 fun h₆ hb₆ e₆ => ?_
          refine ⟨n + 1 - (i + 1), by omega, h₆, tk₅, i + 1, ys ++ [y], _, rfl, t5, rfl, hlt, hI₅, W.frame _ _ _ s5 fun b hb o e => hb₆.extBut b o (fun q => nD (q ▸ hb)) e, (kC.ns c5).sameBut hb₆ (Ne.symm hDC), F₅.change hb₆ (Ne.symm LD) zD, fun p hp => ?_⟩
          rcases List.mem_cons.mp hp with rfl | hp
          · exact ⟨e₆.trans (congrArg some (lst_snoc ys y)), Ne.symm LD, zD⟩
          · have z := N₅ p (.tail _ (.tail _ (.tail _ hp)))
            exact ⟨hb₆.extBut _ _ (nm p hp).2.2 z.1, z.2⟩
      · obtain rfl : i = n := Nat.le_antisymm hi (Nat.not_lt.mp hlt)
        refine W.done _ _ _ hs' fun h₂ tk₂ hk => ?_
        exact hRR _ _ h₂ tk₂ _ ys (fr_but F' hk hIL hI₀) (news_but N' hk fun p hp => by
          rcases List.mem_cons.mp hp with rfl | hp
          · exact Ne.symm three.2.2.1
          · exact off p hp) (fun p hp => (nm p hp).2.2) (hn.at' fun o e => hk _ o (by simpa using Ne.symm three.2.1) e) zC (Ne.symm LC) (Ne.symm hDC) (fun p hp => (nm p hp).2.1) hinv
    · rcases List.mem_cons.mp hp with rfl | hp
      · exact ⟨hsb.extBut _ _ hDC (Heap.get?_push_of_some _ (hH ▸ Heap.get?_push_size _ rfl)), Ne.symm LD, zD⟩
      · exact ⟨up _ _ (N p hp).1, (N p hp).2⟩
  have st0 : St 0 g := W.frame _ _ _ hst fun b _ o e => up b o e
  exact codeAny_compStart_list start (W.self 0 _ _ _ st0 start)
noncomputable def SrcK (prog : Program) (w : World) (A : Around) (h₀ : Heap) (L : Addr) (m : PySem.Str → Option Value) (env : Env) (ifs : List PySem.Expr) (elt : PySem.Expr) (x : PySem.Str) (scope : Scope) (cl : List (PySem.Str × Addr)) (Q : Value → Shared → Prop) (xv : Value) (s₁ : Shared) : Prop :=
  ∃ ax news Inv n P, xv = .ref ax ∧ A.handled = none ∧ Fr h₀ L s₁.heap m ∧ News h₀ L s₁.heap news ∧ n ≤ sizeLine ∧ 0 < s₁.toks ∧ (∀ i ys, Inv i ys → ys.length ≤ i) ∧ Inv 0 [] ∧
    ((∃ its k, (ax, W.listOf its k) ∈ news ∧ n = its.size ∧ P = fun i v => its[i]? = some v) ∨ (∃ t u v, IsRange s₁.heap ax 0 n 1 t u v ∧ Builtin.Range.small 0 n 1 = true ∧ P = fun i v => ∃ t, v = .int (0 + (i : Int)) t)) ∧
    (∀ g, KTurn prog w A h₀ L m env ifs elt x scope cl { s₁ with heap := g } news n P Inv) ∧ (∀ D h tk ys, Inv n ys → Fr h₀ L h m → News h₀ L h ((D, lst ys) :: news) → (∀ p ∈ news, p.1 ≠ D) → Q (.ref D) { s₁ with heap := h, toks := tk })
theorem ListComp_K {elt iter : PySem.Expr} {x : PySem.Str} {px : Pos} {ifs : List PySem.Expr} {scope : Scope} {cl : List (PySem.Str × Addr)} {pos : Pos} {Q : Value → Shared → Prop} (F₀ : Fr h₀ L s.heap m)
    (hclos : closureFor scope env = pure cl) (hcell : ∀ y ∈ scope.names, y.2 ≠ .cell) (hkind : scope.kind = .function)
    (hnames : ∀ y ∈ scope.names, y.2 = .local → scope.names.lookup y.1 = some .local) (hx : scope.names.lookup x = some .local)
    (h : wpAny (model prog w) A (eval iter env) (SrcK prog w A h₀ L m env ifs elt x scope cl Q) E s)
    (hs : ∀ x, foldedSetIterable iter env x = pure x := by intro _; rfl) :
    wpAny (model prog w) A (eval (.ListComp elt [⟨.Name x px, iter, ifs, 0⟩] scope pos) env) Q E s := by
  rw [eval_ListComp]
  refine wpAny_comprehension_free (use := none) rfl hs hclos hkind hnames (wpAny_mono h (fun xv s₁ h₁ => ?_) fun _ _ e => e)
  obtain ⟨ax, news, Inv, n, P, rfl, hh, F, N, hsz, ht, hlen, h0, src, turn, fin⟩ := h₁
  have last : ∀ g : Heap, ∀ D C h tk m' ys, Fr h₀ L h m → News h₀ L h ((D, lst ys) :: news) → (∀ p ∈ news, p.1 ≠ D) → h.Ns C m' → h₀.get? C = none → C ≠ L → C ≠ D → (∀ p ∈ news, p.1 ≠ C) → Inv n ys → ∃ m, h.Ns C m ∧ ∀ h'', Heap.SameBut C h h'' → Q (.ref D) { s₁ with heap := h'', toks := tk } := by
    intro g D C h tk m' ys F' N' offD hn hC₀ hCL hCD offC hinv
    refine ⟨m', hn, fun h'' hs'' => fin D h'' tk ys hinv (F'.change hs'' hCL hC₀) (fun p hp => ?_) offD⟩
    refine ⟨hs''.extBut _ _ ?_ (N' p hp).1, (N' p hp).2⟩
    rcases List.mem_cons.mp hp with rfl | hp
    · exact Ne.symm hCD
    · exact offC p hp
  rcases src with ⟨its, k, hm, rfl, rfl⟩ | ⟨t, u, v, hr, hsm, rfl⟩
  · have hl : s₁.heap.IsList ax its := N.isList hm
    have hlt : ax < s₁.heap.objs.size := Heap.lt_size (N _ hm).1
    refine wpAny_pyIter_list hl ?_
    have up : ∀ b o, s₁.heap.get? b = some o → (s₁.heap.push { cls := .type "list_iterator", data := .fields #[.ref ax, .int 0 0] }).get? b = some o := fun b o e => Heap.get?_push_of_some _ e
    refine block_K (Walks.list hh s₁.heap.objs.size ax (Nat.ne_of_lt hlt) its) hsz (fun i h st => by obtain ⟨o, e, _⟩ := st.1; exact ⟨o, e⟩) (fun i h h' st e N' => ⟨by obtain ⟨o, q, r⟩ := st.1; exact ⟨o, e.trans q, r⟩, N'.isList hm⟩) hcell hkind hx ⟨⟨_, Heap.get?_push_size _ rfl, rfl, rfl⟩, hl.push _⟩ (fun b hb => ?_)
      (F.keeps up) (N.grown up) (Nat.ne_of_lt F.ns.lt) (next_is_new F) (fun p hp => Nat.ne_of_lt (Heap.lt_size (N p hp).1)) ht hlen h0 (turn _) ?_
    · show b < (s₁.heap.push _).objs.size
      rw [Heap.size_push]
      rcases List.mem_cons.mp hb with rfl | hb
      · exact Nat.lt_succ_self _
      · rw [List.mem_singleton.mp hb]; exact Nat.lt_succ_of_lt hlt
    · exact last s₁.heap
  · refine wpAny_pyIter_range hr hsm ?_
    have hn : Builtin.Range.rangeSize 0 n 1 = ((n : Nat) : Int) := by rw [rangeSize_nat]; omega
    refine block_K (range_walks hh 0 n) hsz (fun i h st => ⟨_, st⟩) (fun i h h' st e N' => by
      have st' : h.get? s₁.heap.objs.size = some _ := st
      show h'.get? s₁.heap.objs.size = some _
      rw [e]; exact st') hcell hkind hx (by show IsRangeIter _ _ _ _ _; rw [hn]; simpa using Heap.get?_push_size _ rfl) (fun b hb => ?_)
      (F.keeps fun _ _ e => Heap.get?_push_of_some _ e) (N.grown fun _ _ e => Heap.get?_push_of_some _ e) (Nat.ne_of_lt F.ns.lt) (next_is_new F) (fun p hp => Nat.ne_of_lt (Heap.lt_size (N p hp).1)) ht hlen h0 (turn _) ?_
    · rw [List.mem_singleton.mp hb]
      show s₁.heap.objs.size < (s₁.heap.push _).objs.size
      rw [Heap.size_push]; exact Nat.lt_succ_self _
    · exact last s₁.heap
noncomputable def SrcKA (prog : Program) (w : World) (A : Around) (h₀ : Heap) (L : Addr) (m : PySem.Str → Option Value) (env : Env) (ifs : List PySem.Expr) (elt : PySem.Expr) (x : PySem.Str) (scope : Scope) (cl : List (PySem.Str × Addr)) (y : PySem.Str) (Q : Flow → Shared → Prop) (xv : Value) (s₁ : Shared) : Prop :=
  ∃ ax news Inv n P, xv = .ref ax ∧ A.handled = none ∧ Fr h₀ L s₁.heap m ∧ News h₀ L s₁.heap news ∧ n ≤ sizeLine ∧ 0 < s₁.toks ∧ (∀ i ys, Inv i ys → ys.length ≤ i) ∧ Inv 0 [] ∧
    (∃ t u v, IsRange s₁.heap ax 0 n 1 t u v ∧ Builtin.Range.small 0 n 1 = true ∧ P = fun i v => ∃ t, v = .int (0 + (i : Int)) t) ∧
    (∀ g, KTurn prog w A h₀ L m env ifs elt x scope cl { s₁ with heap := g } news n P Inv) ∧ (∀ D h tk ys, Inv n ys → Fr h₀ L h (fun z => if z = y then some (.ref D) else m z) → News h₀ L h ((D, lst ys) :: news) → (∀ p ∈ news, p.1 ≠ D) → Q .next { s₁ with heap := h, toks := tk })
theorem Assign_ListComp_K {elt iter : PySem.Expr} {x y : PySem.Str} {px py : Pos} {ifs : List PySem.Expr} {scope : Scope} {cl : List (PySem.Str × Addr)} {pos spos : Pos} {Q : Flow → Shared → Prop} (F₀ : Fr h₀ L s.heap m) (hLe : env.locals = L)
    (hsw : swapsWith (.ListComp elt [⟨.Name x px, iter, ifs, 0⟩] scope pos) (some (.Name y py)) spos.line env = pure true)
    (hclos : closureFor scope env = pure cl) (hcell : ∀ y ∈ scope.names, y.2 ≠ .cell) (hkind : scope.kind = .function)
    (hnames : ∀ y ∈ scope.names, y.2 = .local → scope.names.lookup y.1 = some .local) (hx : scope.names.lookup x = some .local)
    (hy : env.kindOf y = some .local) (hp : (env.scope.kind == .class || (env.scope.kind == .module && env.locals != env.globals)) = false)
    (h : wpAny (model prog w) A (eval iter env) (SrcKA prog w A h₀ L m env ifs elt x scope cl y Q) E s)
    (hs : ∀ x, foldedSetIterable iter env x = pure x := by intro _; rfl) :
    wpAny (model prog w) A (exec (.Assign [.Name y py] (.ListComp elt [⟨.Name x px, iter, ifs, 0⟩] scope pos) spos) env) Q E s := by
  subst hLe
  rw [exec_Assign_Name_used _ _ _ _ hsw]
  refine wpAny_bind (wpAny_standAt (wpAny_bind ?_))
  show wpAny _ A (do let _ ← comprehension (.ListComp elt [⟨.Name x px, iter, ifs, 0⟩] scope pos) scope env _ (newList []) false (eval iter env) (some (assign (.Name y py) env))) _ _ s
  refine wpAny_bind (wpAny_mono (wpAny_comprehension_free (use := some (assign (.Name y py) env)) (Q := fun _ s' => Q .next s') rfl hs hclos hkind hnames
    (wpAny_mono h (fun xv s₁ h₁ => ?_) fun _ _ e => e)) (fun _ s' hq => wpAny_pure (wpAny_pure hq)) fun _ _ e => e)
  obtain ⟨ax, news, Inv, n, P, rfl, hh, F, N, hsz, ht, hlen, h0, ⟨t, u, v, hr, hsm, rfl⟩, turn, fin⟩ := h₁
  refine wpAny_pyIter_range hr hsm ?_
  have hn : Builtin.Range.rangeSize 0 n 1 = ((n : Nat) : Int) := by rw [rangeSize_nat]; omega
  refine block_K (range_walks hh 0 n) hsz (fun i h st => ⟨_, st⟩) (fun i h h' st e N' => by
    have st' : h.get? s₁.heap.objs.size = some _ := st
    show h'.get? s₁.heap.objs.size = some _
    rw [e]; exact st') hcell hkind hx (by show IsRangeIter _ _ _ _ _; rw [hn]; simpa using Heap.get?_push_size _ rfl) (fun b hb => ?_)
    (F.keeps fun _ _ e => Heap.get?_push_of_some _ e) (N.grown fun _ _ e => Heap.get?_push_of_some _ e) (Nat.ne_of_lt F.ns.lt) (next_is_new F) (fun p hp => Nat.ne_of_lt (Heap.lt_size (N p hp).1)) ht hlen h0 (turn _) ?_
  · rw [List.mem_singleton.mp hb]
    show s₁.heap.objs.size < (s₁.heap.push _).objs.size
    rw [Heap.size_push]; exact Nat.lt_succ_self _
  · intro D C h tk m' ys F' N' offD hn hC₀ hCL hCD offC hinv
    show wpAny _ A (assign (.Name y py) env (.ref D)) _ _ _
    refine wpAny_assign_Name (wpAny_storeName_local hy F'.ns (fun h₂ hn₂ hs₂ => ?_) hp)
    have F₂ := F'.set hn₂ hs₂
    refine ⟨m', hn.sameBut hs₂ hCL, fun h'' hs'' => fin D h'' _ ys hinv (F₂.change hs'' hCL hC₀) (fun p hp => ?_) offD⟩
    have z : h₂.get? p.1 = some p.2 := hs₂.extBut _ _ (N' p hp).2.1 (N' p hp).1
    refine ⟨hs''.extBut _ _ ?_ z, (N' p hp).2⟩
    rcases List.mem_cons.mp hp with rfl | hp
    · exact Ne.symm hCD
    · exact offC p hp
end
end
section
set_option linter.unusedVariables false
set_option maxRecDepth 100000
noncomputable def cardsL (x y z : Int) (i : Nat) : List Int := ([x, y, z].take i).filter fun v => decide (v > 0)
noncomputable def cardSets : List (List Int) := ([1, 2, 3, 4] : List Int).flatMap fun x => ([0, 1, 2] : List Int).flatMap fun y => ([0, 1, 2] : List Int).map fun z => cardsL x y z 3
theorem cards_in {x y z : Int} (h1 : 1 ≤ x) (h2 : x ≤ 4) (h3 : 0 ≤ y) (h4 : y ≤ 2) (h5 : 0 ≤ z) (h6 : z ≤ 2) : cardsL x y z 3 ∈ cardSets := by
  have a : x = 1 ∨ x = 2 ∨ x = 3 ∨ x = 4 := by omega
  have b : y = 0 ∨ y = 1 ∨ y = 2 := by omega
  have c : z = 0 ∨ z = 1 ∨ z = 2 := by omega
  refine List.mem_flatMap.mpr ⟨x, by rcases a with rfl | rfl | rfl | rfl <;> decide, List.mem_flatMap.mpr ⟨y, by rcases b with rfl | rfl | rfl <;> decide, List.mem_map.mpr ⟨z, by rcases c with rfl | rfl | rfl <;> decide, rfl⟩⟩⟩
theorem card_facts {CL : List Int} (h : CL ∈ cardSets) : 1 ≤ CL.length ∧ CL.length ≤ 3 ∧ 1 ≤ CL.sum ∧ CL.sum ≤ 8 ∧ ∀ c ∈ CL, 1 ≤ c ∧ c ≤ 4 := by
  have : ∀ CL ∈ cardSets, 1 ≤ CL.length ∧ CL.length ≤ 3 ∧ 1 ≤ CL.sum ∧ CL.sum ≤ 8 ∧ ∀ c ∈ CL, 1 ≤ c ∧ c ≤ 4 := by decide +kernel
  exact this CL h
theorem cardsL_yes {x y z v : Int} {i : Nat} (e : [x, y, z].take (i + 1) = [x, y, z].take i ++ [v]) (h : v > 0) : cardsL x y z (i + 1) = cardsL x y z i ++ [v] := by
  unfold cardsL; rw [e, List.filter_append]; simp [h]
theorem cardsL_no {x y z v : Int} {i : Nat} (e : [x, y, z].take (i + 1) = [x, y, z].take i ++ [v]) (h : ¬ v > 0) : cardsL x y z (i + 1) = cardsL x y z i := by
  unfold cardsL; rw [e, List.filter_append]; simp [h]

end
section
set_option linter.unusedVariables false
set_option maxRecDepth 100000
/- the plain law: piles by their sizes -/
noncomputable def stepS (sz : List Int) : List Int := (sz.length : Int) :: (sz.filter fun x => decide (x > 1)).map (· - 1)
noncomputable def sizesAt (CL : List Int) : Nat → List Int
  | 0 => CL
  | n + 1 => stepS (sizesAt CL n)
noncomputable def insI (x : Int) : List Int → List Int
  | [] => [x]
  | y :: r => if x ≤ y then x :: y :: r else y :: insI x r
noncomputable def isort : List Int → List Int
  | [] => []
  | x :: r => insI x (isort r)
noncomputable def lineS (sz : List Int) : List Nat := sz.flatMap fun s => List.replicate (4 * s.toNat + 1) 32 ++ [9]
noncomputable def runS (l : List Nat) : WsV := wsRun l ([], 0, 0, 0)
noncomputable def normS (l : List Nat) : List Int × Int := ((runS l).1, (runS l).2.1)
noncomputable def leadS (sz : List Int) : List Nat := lineS sz ++ [32, 32, 32, 107, 9]
noncomputable def dueS (sz : List Int) : List Int := isort sz
noncomputable def lastI (l : List Int) : Int := l.getLast?.getD 0
/-- one turn is as told -/
noncomputable def turnOk (sz : List Int) (total : Int) : Bool :=
  (normS (leadS sz) == (normC (dueS sz) (lastI (dueS sz)), 3)) && (lvl (runS (leadS sz)).1 (runS (leadS sz)).2.1 (runS (leadS sz)).2.2.2 == 4 * (total + (dueS sz).length) + 3) &&
  (isort (((dueS sz).filter fun x => decide (x > 1)).map (· - 1) ++ [((dueS sz).length : Int)]) == dueS (stepS sz)) && sz.all (fun x => decide (1 ≤ x) && decide (x ≤ 8)) && decide (sz.length ≤ 8) && decide (1 ≤ sz.length) && decide (sz.sum = total)
/-- at which turn a lead comes again -/
noncomputable def againAt (CL : List Int) : Nat → Nat → Option (Nat × Nat)
  | 0, _ => none
  | f + 1, t => match (List.range t).filter (fun k => normS (leadS (sizesAt CL k)) == normS (leadS (sizesAt CL t))) with
    | [] => againAt CL f (t + 1)
    | [k] => some (t, k)
    | _ => none
noncomputable def extrasS (CL : List Int) (T : Nat) : List (List Int) := (List.range T).map fun k => extraOf (dueS (sizesAt CL k)) CL.sum
noncomputable def rotI (l : List Int) : List Int := l.drop (l.length - 1) ++ l.take (l.length - 1)
noncomputable def runL (a : Int) : List Nat := List.replicate (4 * a + 1).toNat 32 ++ [9]
noncomputable def periods (r : List Int) : List Nat := ((List.range r.length).map (· + 1)).filter fun k => r.drop k ++ r.take k == r
/-- all that is asked behind the loop -/
noncomputable def tailOk (CL : List Int) (T k0 : Nat) : Bool :=
  ((normS (lineS (sizesAt CL T) ++ runL ((dueS (sizesAt CL T)).getD 0 0)) == normS (lineS (sizesAt CL T) ++ runL (lastI (dueS (sizesAt CL T))))) == ((dueS (sizesAt CL T)).getD 0 0 == lastI (dueS (sizesAt CL T)))) &&
  (!(normS (leadS (sizesAt CL T)) == normS (lineS (sizesAt CL T) ++ [32, 32]))) &&
  ((extrasS CL T).map (fun e => !(e == [])) == (List.range T).map (fun k => decide (k0 ≤ k))) &&
  ((List.range (T - k0)).all fun k => ((extrasS CL T).drop k0).getD ((k + 1) % (T - k0)) [] == rotI (((extrasS CL T).drop k0).getD k [])) &&
  ((periods (((extrasS CL T).drop k0).getD 0 [])).head? == some (T - k0)) && decide (k0 < T) && decide (T < 24)
/-- the whole plain law of one set of cards -/
noncomputable def planOk (CL : List Int) : Bool :=
  match againAt CL 24 0 with
  | none => false
  | some (T, k0) => ((List.range (T + 1)).all fun t => turnOk (sizesAt CL t) CL.sum) &&
    ((List.range T).all fun t => (List.range t).all fun k => !(normS (leadS (sizesAt CL k)) == normS (leadS (sizesAt CL t)))) &&
    ((List.range T).all fun k => (normS (leadS (sizesAt CL k)) == normS (leadS (sizesAt CL T))) == (k == k0)) && tailOk CL T k0
theorem plan_all : (cardSets.all fun CL => planOk CL) = true := by kernel_rfl
end
section
set_option linter.unusedVariables false
set_option maxRecDepth 100000
/- from texts to sizes -/
noncomputable def blank (c : Nat) : Nat := if c = 107 then 9 else 32
theorem lineSign_one (c : Nat) : lineSign (⟨#[c]⟩ : PySem.Str) = ⟨#[blank c]⟩ := by
  unfold lineSign blank
  by_cases h : c = 107
  · subst h; rfl
  · rw [if_neg h, if_neg]
    · rfl
    · intro e
      exact h (code_of e (by rfl))
theorem lineOf_list (x : PySem.Str) : (lineOf x).cps.toList = x.cps.toList.map blank := by
  have e : (signs x).map lineSign = (x.cps.toList.map blank).map fun c => (⟨#[c]⟩ : PySem.Str) := by
    unfold signs
    rw [List.map_map, List.map_map]
    apply List.map_congr_left
    intro c _
    exact lineSign_one c
  unfold lineOf
  rw [e, join_signs1]
theorem sjoin_list : ∀ l : List PySem.Str, (PySem.Str.join (.ofString "") l).cps.toList = (l.map fun x => x.cps.toList).flatten
  | [] => rfl
  | [x] => by simp [PySem.Str.join]
  | x :: y :: r => by
    have h := sjoin_list (y :: r)
    show (x.cps ++ #[] ++ (PySem.Str.join (.ofString "") (y :: r)).cps).toList = _
    simp [h]
theorem join_list (l : List PySem.Str) : (Txt.join (.ofString "") l).cps.toList = (l.map fun x => x.cps.toList).flatten := by
  have h := beq_iff_eq.mp (PyProof.Rows.join_plain_closes (.ofString "") l)
  rw [h]; exact sjoin_list l
noncomputable def pileOk (n : Nat) (nm : PySem.Str) : Bool :=
  ((pileT (n : Int) nm).cps.toList.map blank == List.replicate (4 * n + 1) 32 ++ [9]) && (semis (pileT (n : Int) nm) (pileT (n : Int) nm).cps.size == (n : Int)) && (n == 1 || Txt.replace (pileT (n : Int) nm) (.ofString "&amp;") (.ofString "&") == pileT ((n : Int) - 1) nm) && ((pileT (n : Int) nm).length == 4 * n + 2)
theorem pile_all : ((List.range 8).all fun n => names7.all fun nm => pileOk (n + 1) nm) = true := by kernel_rfl
theorem pile_of {s : Int} {nm : PySem.Str} (h1 : 1 ≤ s) (h8 : s ≤ 8) (hn : nm ∈ names7) : (pileT s nm).cps.toList.map blank = List.replicate (4 * s.toNat + 1) 32 ++ [9] ∧ semis (pileT s nm) (pileT s nm).cps.size = s ∧ (s > 1 → Txt.replace (pileT s nm) (.ofString "&amp;") (.ofString "&") = pileT (s - 1) nm) := by
  have h := List.all_eq_true.mp (List.all_eq_true.mp pile_all (s.toNat - 1) (List.mem_range.mpr (by omega))) nm hn
  have e : s.toNat - 1 + 1 = s.toNat := by omega
  have e2 : ((s.toNat : Nat) : Int) = s := by omega
  unfold pileOk at h
  rw [e, e2] at h
  simp only [Bool.and_eq_true, Bool.or_eq_true, beq_iff_eq] at h
  refine ⟨h.1.1.1, h.1.1.2, fun hs => ?_⟩
  rcases h.1.2 with q | q
  · omega
  · exact q
theorem piles_line : ∀ {xs : List PySem.Str} {ss : List Int}, PilesAre xs ss → (∀ s ∈ ss, 1 ≤ s ∧ s ≤ 8) → ((xs.map fun x => x.cps.toList).flatten).map blank = lineS ss := by
  intro xs ss k
  induction k with
  | nil => intro _; rfl
  | cons a b _ ih =>
    intro h
    rw [List.map_cons, List.flatten_cons, List.map_append, ih (fun s q => h s (.tail _ q)), b, (pile_of (h _ (.head _)).1 (h _ (.head _)).2 a).1]
    rfl
theorem line_list {xs : List PySem.Str} {ss : List Int} (h : PilesAre xs ss) (hs : ∀ s ∈ ss, 1 ≤ s ∧ s ≤ 8) : (lineOf (Txt.join (.ofString "") xs)).cps.toList = lineS ss := by
  rw [lineOf_list, join_list, piles_line h hs]
theorem app_list (x y : PySem.Str) : (x ++ y).cps.toList = x.cps.toList ++ y.cps.toList := by
  show (x.cps ++ y.cps).toList = _
  simp
theorem lead_list {x : PySem.Str} {ss : List Int} (h : x.cps.toList = lineS ss) : (x ++ .ofString "   k\t").cps.toList = leadS ss := by
  rw [app_list, h]; rfl
theorem two_list {x : PySem.Str} {ss : List Int} (h : x.cps.toList = lineS ss) : (x ++ .ofString "  ").cps.toList = lineS ss ++ [32, 32] := by
  rw [app_list, h]; rfl
theorem mul_list : ∀ n : Nat, n < 40 → (Txt.mul (.ofString " ") (n : Int)).cps.toList = List.replicate n 32 := by decide +kernel
theorem run_list {x : PySem.Str} {ss : List Int} {a : Int} (h : x.cps.toList = lineS ss) (h0 : 0 ≤ a) (h8 : a ≤ 8) : (x ++ Txt.mul (.ofString " ") (4 * a + 1) ++ .ofString "\t").cps.toList = lineS ss ++ runL a := by
  have e : 4 * a + 1 = ((4 * a + 1).toNat : Int) := by omega
  rw [app_list, app_list, h, e, mul_list _ (by omega), List.append_assoc]
  unfold runL
  rfl
theorem wsN_norm (x : PySem.Str) : wsN x = normS x.cps.toList := rfl
theorem norm_run {l : List Nat} {cs : List Int} {b n nt : Int} (h : wsRun l ([], 0, 0, 0) = (cs, b, n, nt)) : normS l = (cs, b) := by unfold normS runS; rw [h]
theorem PilesAre.line_len : ∀ {xs : List PySem.Str} {ss : List Int}, PilesAre xs ss → (∀ s ∈ ss, 1 ≤ s ∧ s ≤ 8) → (lineS ss).length ≤ 40 * ss.length ∧ (xs.map (·.length)).sum ≤ 40 * xs.length
  | _, _, .nil, _ => ⟨Nat.le_refl _, Nat.le_refl _⟩
  | _, _, .cons (s := s) a b r, h => by
    obtain ⟨i1, i2⟩ := r.line_len (fun s q => h s (.tail _ q))
    have hb := h s (.head _)
    have h2 := (pile_ok (by omega) hb.2 a).2
    rw [← b] at h2
    constructor
    · unfold lineS at i1 ⊢
      rw [List.flatMap_cons, List.length_append, List.length_append, List.length_replicate, List.length_cons]
      simp only [List.length_cons, List.length_nil]
      omega
    · rw [List.map_cons, List.sum_cons, List.length_cons]; omega
theorem flat_len (xs : List PySem.Str) : ((xs.map fun x => x.cps.toList).flatten).length = (xs.map (·.length)).sum := by
  induction xs with
  | nil => rfl
  | cons x r ih => rw [List.map_cons, List.flatten_cons, List.length_append, ih, List.map_cons, List.sum_cons]; simp [PySem.Str.length]
theorem join_len (xs : List PySem.Str) : (Txt.join (.ofString "") xs).length = (xs.map (·.length)).sum := by
  rw [← flat_len, ← join_list]; simp [PySem.Str.length]
theorem list_len {x : PySem.Str} {l : List Nat} (h : x.cps.toList = l) : x.length = l.length := by
  rw [← h]; simp [PySem.Str.length]
end
section
set_option linter.unusedVariables false
set_option maxRecDepth 100000
noncomputable def lawBody : List Stmt := dBody (stm 30)
noncomputable def lawScope : Scope := dScope (stm 30)
theorem law_in {w : World} {A : Scope → Around} {QQ : Flow → Shared → Prop} {E : Value → Shared → Prop} {s : Shared} {env : Scope → Env} {body body' : List Stmt} {scp scp' : Scope} (hs : scp' = scp) (hb : body' = body) (h : wpAny (model pw w) (A scp) (execs body (env scp)) QQ E s) : wpAny (model pw w) (A scp') (execs body' (env scp')) QQ E s := by
  subst hs hb; exact h
/-- the turn's statements -/
noncomputable def forBody (l : List Stmt) : List Stmt := @List.casesOn _ (fun _ => List Stmt) l [] (fun x _ => @PySem.Stmt.casesOn (fun _ => List Stmt) x (fun _ _ _ _ _ _ _ _ _ _ => []) (fun _ _ _ _ _ _ _ _ _ _ => []) (fun _ _ _ _ _ _ _ _ _ _ _ => []) (fun _ _ => []) (fun _ _ => []) (fun _ _ _ => []) (fun _ _ _ _ _ _ _ => []) (fun _ _ _ _ => []) (fun _ _ _ _ _ => []) (fun _ _ z _ _ => z) (fun _ _ _ _ _ => []) (fun _ _ _ _ => []) (fun _ _ _ _ => []) (fun _ _ _ => []) (fun _ _ _ => []) (fun _ _ _ => []) (fun _ _ _ => []) (fun _ _ _ _ _ => []) (fun _ _ _ _ _ => []) (fun _ _ _ => []) (fun _ _ => []) (fun _ _ _ _ => []) (fun _ _ => []) (fun _ _ => []) (fun _ _ => []) (fun _ => []) (fun _ => []) (fun _ => []))
noncomputable def turnBody : List Stmt := forBody (lawBody.drop 10)
noncomputable def ringBody : List Stmt := forBody (lawBody.drop 15)
theorem lookup_mem {y : PySem.Str} {v : Value} {l : List (PySem.Str × Value)} (e : l.lookup y = some v) : (y, v) ∈ l := by
  induction l with
  | nil => cases e
  | cons p l ih =>
    obtain ⟨a, b⟩ := p
    rw [List.lookup_cons] at e
    by_cases q : (y == a) = true
    · rw [q] at e; cases e; rw [beq_iff_eq.mp q]; exact List.mem_cons_self
    · rw [Bool.not_eq_true] at q; rw [q] at e; exact List.mem_cons_of_mem _ (ih e)
theorem ovr_same {m : PySem.Str → Option Value} {l : List (PySem.Str × Value)} (h : ∀ p ∈ l, m p.1 = some p.2) : ovr l m = m := by
  funext y
  unfold ovr
  cases e : l.lookup y with
  | none => rfl
  | some v => exact (h _ (lookup_mem e)).symm
theorem fr_over {h₀ h : Heap} {L : Addr} {m : PySem.Str → Option Value} {l : List (PySem.Str × Value)} (F : Fr h₀ L h m) (hl : ∀ p ∈ l, m p.1 = some p.2) : Fr h₀ L h (ovr l m) := by rw [ovr_same hl]; exact F
noncomputable def upd (m : PySem.Str → Option Value) (a : PySem.Str) (v : Value) : PySem.Str → Option Value := fun y => if y = a then some v else m y
theorem upd_ne {m : PySem.Str → Option Value} {a y : PySem.Str} {v : Value} (h : y ≠ a) : upd m a v y = m y := if_neg h
theorem upd_at {m : PySem.Str → Option Value} {a : PySem.Str} {v : Value} : upd m a v a = some v := if_pos rfl
theorem fr_upd {h₀ h : Heap} {L : Addr} {m : PySem.Str → Option Value} {l : List (PySem.Str × Value)} {a : PySem.Str} {v : Value} (hl : ∀ p ∈ l, m p.1 = some p.2) (F : Fr h₀ L h (fun y => if y = a then some v else ovr l m y)) : Fr h₀ L h (upd m a v) := by
  rw [ovr_same hl] at F; exact F
theorem fr_base {h₀ h : Heap} {L : Addr} {m : PySem.Str → Option Value} {l : List (PySem.Str × Value)} (hl : ∀ p ∈ l, m p.1 = some p.2) (F : Fr h₀ L h (ovr l m)) : Fr h₀ L h m := by
  rw [ovr_same hl] at F; exact F
theorem news_sub {h₀ h : Heap} {L : Addr} {l l' : List (Addr × Obj)} (N : News h₀ L h l) (hs : ∀ p ∈ l', p ∈ l) : News h₀ L h l' := fun p hp => N p (hs p hp)
theorem ws_addr {P : Params} {o : Ws} {q : Addr × Obj} (h : q ∈ wsLed P o) : q.1 = o.P ∨ q.1 = o.T ∨ q.1 = o.I ∨ q.1 = o.d := by
  simp only [wsLed, List.mem_cons, List.not_mem_nil, or_false] at h
  rcases h with rfl | rfl | rfl | rfl
  · exact .inl rfl
  · exact .inr (.inl rfl)
  · exact .inr (.inr (.inl rfl))
  · exact .inr (.inr (.inr rfl))
/-- what a made Whitespace lies above -/
theorem ws_above {P : Params} {o : Ws} {n : Nat} {l tail : List (Addr × Obj)} (h : ∀ q ∈ l, @LT.lt Nat _ q.1 o.d ∧ @LT.lt Nat _ q.1 o.I ∧ @LT.lt Nat _ q.1 o.T ∧ @LT.lt Nat _ q.1 o.P) {b : Addr × Obj} (hb : b ∈ l) (hn : b.1 = n) (ht : ∀ q ∈ tail, @LT.lt Nat _ n q.1) : ∀ q ∈ wsLed P o ++ tail, @LT.lt Nat _ n q.1 := by
  subst hn
  intro q hq
  obtain ⟨h1, h2, h3, h4⟩ := h _ hb
  rcases List.mem_append.mp hq with hq | hq
  · rcases ws_addr hq with e | e | e | e <;> rw [e] <;> assumption
  · exact ht q hq
theorem tests_nil {prog : Program} {w : World} {A : Around} {E : Value → Shared → Prop} {s : Shared} {env : Env} {Q : Bool → Shared → Prop} (h : Q true s) : wpAny (model prog w) A (tests [] env) Q E s := wpAny_tests_nil h
theorem tests_one {prog : Program} {w : World} {A : Around} {E : Value → Shared → Prop} {s : Shared} {env : Env} {c : PySem.Expr} {Q : Bool → Shared → Prop} (h : wpAny (model prog w) A (isTrue c env (eval c env)) Q E s) : wpAny (model prog w) A (tests [c] env) Q E s := wpAny_tests_one h
theorem three_off {news : List (Addr × Obj)} {I C D : Addr} (h : Three news I C D) : (∀ p ∈ news, p.1 ≠ I ∧ p.1 ≠ C ∧ p.1 ≠ D) ∧ (@Ne Nat I C) ∧ (@Ne Nat I D) ∧ (@Ne Nat C D) := ⟨h.1.mem, h.2⟩
theorem piles_at {xs : List PySem.Str} {sz : List Int} (h : PilesAre xs sz) : ∀ {i : Nat} {x : PySem.Str}, xs[i]? = some x → ∃ s nm, sz[i]? = some s ∧ nm ∈ names7 ∧ x = pileT s nm := by
  induction h with
  | nil => intro i x e; cases e
  | cons a b r ih =>
    intro i x e
    cases i with
    | zero => cases e; exact ⟨_, _, rfl, a, b⟩
    | succ i => exact ih e
theorem ints_snoc_at {zs : List Value} {sz : List Int} {i : Nat} {z : Int} {t : Tok} (hS : IntsAre zs (sz.take i)) (h : sz[i]? = some z) : IntsAre (zs ++ [.int z t]) (sz.take (i + 1)) := by
  rw [List.take_add_one, h]
  exact ints_snoc hS
theorem gen_n {M : Model} {A : Around} {α : Type} {t : Sem α} {Q : α → Shared → Prop} {E : Value → Shared → Prop} {hp : Heap} {g : Array GenState} {d : Drawn} {n : Nat} {os : OsState} (h0 : 0 < n) (h : ∀ tk, 0 < tk → wpAny M A t Q E ⟨hp, g, d, tk, os⟩) : wpAny M A t Q E ⟨hp, g, d, n, os⟩ := h _ h0
theorem list_atU {prog : Program} {w : World} {A : Around} {E : Value → Shared → Prop} {s : Shared} {h₀ : Heap} {L a : Addr} {news : List (Addr × Obj)} {value slice : PySem.Expr} {its : Array Value} {n : Nat} {k : Int} {u : Tok} {Q : Value → Shared → Prop} {x : Value} (N : News h₀ L s.heap news) (hm : (a, W.listOf its n) ∈ news) (h0 : 0 ≤ k) (hz : k < 2 ^ 62) (hx : its[k.toNat]? = some x) (h : ∀ _ : Unit, Q x s)
    (hs : subscripted slice false (.ref a) (.int k u) = operate [.ref a, .int k u] (getItem (.ref a) (.int k u)) := by with_unfolding_all rfl) (hg : ∀ r, letTemporaryGo value (.ref a) r = pure () := by intro _; with_unfolding_all rfl) :
    wpAny (model prog w) A (subscriptTail value slice (.ref a) (.int k u)) Q E s := list_at N hm h0 hz hx (h ()) hs hg
theorem range1_toks {prog : Program} {w : World} {A : Around} {E : Value → Shared → Prop} {s : Shared} {h₀ : Heap} {L : Addr} {m : PySem.Str → Option Value} {Q : Value → Shared → Prop} {n : Int} {t : Tok} {news : List (Addr × Obj)} (ht : 0 < s.toks) (F : Fr h₀ L s.heap m) (N : News h₀ L s.heap news)
    (h : ∀ h' tk t₁ u₁ v₁, 0 < tk → IsRange h' s.heap.objs.size 0 n 1 t₁ u₁ v₁ → Fr h₀ L h' m → News h₀ L h' news → Q (.ref s.heap.objs.size) { s with heap := h', toks := tk }) :
    wpAny (model prog w) A (call (.type "range") [.int n t]) Q E s :=
  wpAny_with_toks (n := 1) ht (range1_rows F N fun h' tk t₁ u₁ v₁ a b c _ d => h h' tk t₁ u₁ v₁ d a b c)
noncomputable def restS (sz : List Int) : List Int := (sz.filter fun x => decide (x > 1)).map (· - 1)
theorem restS_snoc (l : List Int) (x : Int) : restS (l ++ [x]) = if x > 1 then restS l ++ [x - 1] else restS l := by
  unfold restS
  rw [List.filter_append]
  by_cases h : x > 1
  · rw [if_pos h]; simp [h]
  · rw [if_neg h]; simp [h]
/-- a list of ints that lies in the ledger: its address, its items, its room, what they say -/
noncomputable abbrev LE := Addr × List Value × Nat × List Int
noncomputable def leObj (e : LE) : Addr × Obj := (e.1, W.listOf e.2.1.toArray e.2.2.1)
theorem off_lastN {I C D : Addr} {l m : List (Addr × Obj)} {a : Addr × Obj} (h : ∀ p ∈ l ++ m, p.1 ≠ I ∧ p.1 ≠ C ∧ p.1 ≠ D) (h1 : @Ne Nat I a.1) (h2 : @Ne Nat C a.1) (h3 : @Ne Nat D a.1) : LCg.Off3 I C D (l ++ (m ++ [a])) := LCg.Off3.of fun p hp => by
  rcases List.mem_cons.mp (sub_last p hp) with rfl | hp
  · exact ⟨Ne.symm h1, Ne.symm h2, Ne.symm h3⟩
  · exact h p hp
theorem le_at {es : List LE} {zs : List Value} {i : Nat} {v : Value} (hz : zs = es.map fun e => .ref e.1) (h : zs.toArray[i]? = some v) : ∃ e, es[i]? = some e ∧ v = .ref e.1 := by
  subst hz
  rw [List.getElem?_toArray, List.getElem?_map] at h
  cases e : es[i]? with
  | none => rw [e] at h; cases h
  | some p => rw [e] at h; exact ⟨p, rfl, (Option.some.inj h).symm⟩
theorem bools_carried : ∀ bs : List Bool, CarriedAll (bs.map Value.bool) (bs.map PyData.bool)
  | [] => .nil
  | b :: r => .cons (.bool b) (bools_carried r)
theorem bools_lay : ∀ bs : List Bool, PyData.canLayAll0 (bs.map PyData.bool) = true
  | [] => rfl
  | b :: r => by simp [PyData.canLayAll0, PyData.canLay0, bools_lay r]
theorem bools_depth : ∀ bs : List Bool, PyData.depthAll (bs.map PyData.bool) = 0
  | [] => rfl
  | _ :: r => by simp [PyData.depthAll, PyData.depth, bools_depth r]
theorem bools_shaped (bs : List Bool) : SeqAt.shaped (.list (bs.map PyData.bool)) = true := by
  simp [SeqAt.shaped, PyData.canLay0, PyData.depth, bools_lay bs, bools_depth]
theorem bools_eqv : ∀ bs : List Bool, PyData.eqvAll (bs.map PyData.bool) (bs.map PyData.bool) = true
  | [] => by simp [PyData.eqvAll]
  | b :: r => by cases b <;> simp [PyData.eqvAll, PyData.eqv, bools_eqv r]
theorem ne_bools_same {prog : Program} {w : World} {A : Around} {E : Value → Shared → Prop} {s : Shared} {h₀ : Heap} {L a b : Addr} {news : List (Addr × Obj)} {bs : List Bool} {n1 n2 : Nat} {Q : Value → Shared → Prop} (N : News h₀ L s.heap news) (ha : (a, W.listOf (bs.map Value.bool).toArray n1) ∈ news) (hb : (b, W.listOf (bs.map Value.bool).toArray n2) ∈ news) (hu : A.units + 64 < cLine) (h : Q (.bool false) s) : wpAny (model prog w) A (compareOp .NotEq (.ref a) (.ref b)) Q E s :=
  ne_dataH (reads_newData (N.isList ha) (bools_carried bs)) (reads_newData (N.isList hb) (bools_carried bs)) (bools_shaped _) (bools_shaped _) hu (by
    show Q (.bool (!PyData.eqv (.list (bs.map .bool)) (.list (bs.map .bool)))) s
    simp only [PyData.eqv]
    rw [bools_eqv]; exact h)
theorem len_led {prog : Program} {w : World} {A : Around} {E : Value → Shared → Prop} {s : Shared} {h₀ : Heap} {L l : Addr} {news : List (Addr × Obj)} {its : Array Value} {n k : Nat} {Q : Value → Shared → Prop} (N : News h₀ L s.heap news) (hm : (l, W.listOf its n) ∈ news) (e : its.size = k) (hz : k ≤ 10000) (h : ∀ _ : Unit, Q (.int (k : Nat) (s.toks + 1)) { s with toks := s.toks + 1 + 1 }) : wpAny (model prog w) A (call (.builtin "len") [.ref l]) Q E s := by
  subst e
  exact call_len_list (N.isList hm) (by omega) (h ())
theorem ne_ints_same {prog : Program} {w : World} {A : Around} {E : Value → Shared → Prop} {s : Shared} {h₀ : Heap} {L : Addr} {news : List (Addr × Obj)} {Q : Value → Shared → Prop} {a b : Addr} {xs ys : List Value} {ns ms : List Int} {n1 n2 : Nat} (N : News h₀ L s.heap news) (ha : (a, W.listOf xs.toArray n1) ∈ news) (hb : (b, W.listOf ys.toArray n2) ∈ news) (hi : IntsAre xs ns) (hj : IntsAre ys ms) (hu : A.units + 64 < cLine) (e : ns = ms) (h : Q (.bool false) s) : wpAny (model prog w) A (compareOp .NotEq (.ref a) (.ref b)) Q E s :=
  ne_ints_led N ha hb hi hj hu (by rw [decide_eq_true e]; exact h)
theorem slice_intsP {prog : Program} {w : World} {A : Around} {E : Value → Shared → Prop} {s : Shared} {h₀ : Heap} {L : Addr} {m : PySem.Str → Option Value} {news : List (Addr × Obj)} {value slice : PySem.Expr} {ops : List Value} {l : Addr} {vs : List Value} {ns ms : List Int} {vl vu vt : Value} {lo hi : Option Int} {Q : Value → Shared → Prop}
    (F : Fr h₀ L s.heap m) (N : News h₀ L s.heap news) (hl : s.heap.IsList l vs.toArray) (hi' : IntsAre vs ns) (pl : IsPart vl lo) (pu : IsPart vu hi) (pt : IsPart vt none) (hsz : ns.length ≤ 1000) (hm : IntsAre (slicePick vs.toArray lo hi none).toList ms)
    (h : ∀ D ws h', Fr h₀ L h' m → News h₀ L h' ((D, W.listOf (List.toArray ws) 0) :: news) → (∀ p ∈ news, p.1 < D) → IntsAre ws ms → Q (.ref D) { s with heap := h' })
    (hs : subscripted slice false (.ref l) (.ref s.heap.objs.size) = operate ops (getItem (.ref l) (.ref s.heap.objs.size)) := by with_unfolding_all rfl)
    (ht : ∀ r, letTemporaryGo value (.ref l) r = pure () := by intro _; with_unfolding_all rfl) :
    wpAny (model prog w) A (subscriptTail value slice (.ref l) (.ref s.heap.objs.size)) Q E { s with heap := s.heap.push { cls := .type "slice", data := .fields #[vl, vu, vt] } } := by
  have hlen := hi'.length
  refine slice_listS F N hl pl pu pt (by decide) (by rw [sizeLine_eq, List.size_toArray]; omega) (fun D h' F' N' l1 => h D (slicePick vs.toArray lo hi none).toList h' F' ?_ l1 hm) hs ht
  rw [Array.toArray_toList]
  exact N'
theorem sub_binop {l r : PySem.Expr} {op : Operator} {p : Pos} {o i : Value} : subscripted (.BinOp l op r p) false o i = operate [o, i] (getItem o i) := rfl
theorem ws_ne {P : Params} {o : Ws} {n : Addr} {l tail : List (Addr × Obj)} (h : ∀ q ∈ l, @LT.lt Nat _ q.1 o.d ∧ @LT.lt Nat _ q.1 o.I ∧ @LT.lt Nat _ q.1 o.T ∧ @LT.lt Nat _ q.1 o.P) {b : Addr × Obj} (hb : b ∈ l) (hn : b.1 = n) (ht : ∀ q ∈ tail, q.1 ≠ n) : ∀ q ∈ wsLed P o ++ tail, q.1 ≠ n := by
  subst hn
  intro q hq
  obtain ⟨h1, h2, h3, h4⟩ := h _ hb
  rcases List.mem_append.mp hq with hq | hq
  · rcases ws_addr hq with e | e | e | e <;> rw [e]
    · exact Nat.ne_of_gt h4
    · exact Nat.ne_of_gt h3
    · exact Nat.ne_of_gt h2
    · exact Nat.ne_of_gt h1
  · exact ht q hq
end
local macro_rules | `(tactic| k_ne) => `(tactic| (refine neN ?_; (try dsimp only); first | walk_at "mine.cells" | assumption | exact Ne.symm (by assumption) | omega))
local macro_rules | `(tactic| k_all) => `(tactic| first | assumption | exact allNe_of (by assumption) | exact gt_ne (by assumption) (by omega))
section
set_option linter.unusedVariables false
set_option maxRecDepth 100000
set_option maxHeartbeats 4000000
local macro_rules | `(tactic| walk_at "SrcK") => `(tactic| walk_at "mine.1")
local macro_rules | `(tactic| walk_at "KSt") => `(tactic| walk_at "mine.1")
theorem haltT1 {M : Model} {A : Around} {q1 : Pos} {c : PySem.Expr} {b1 : List Stmt} {b2 : List Stmt} {r : List Stmt} {env : Env} {Q : Flow → Shared → Prop} {E : Value → Shared → Prop} {s : Shared} (h : Halt (wpAny M A (execs (Stmt.If c b1 b2 q1 :: r) env) Q E s)) : wpAny M A (execs (Stmt.If c b1 b2 q1 :: r) env) Q E s := h
local macro_rules | `(tactic| walk_at "execs cons") => `(tactic| (with_reducible refine haltT1 ?_))
theorem halt83 {M : Model} {A : Around} {args : List Value} {Q E : Value → Shared → Prop} {s : Shared} (h : Halt (wpAny M A (call (.ref 83) args) Q E s)) : wpAny M A (call (.ref 83) args) Q E s := h
local macro_rules | `(tactic| walk_at "call ref") => `(tactic| (k_here; refine halt83 ?_))
theorem halt101 {M : Model} {A : Around} {args : List Value} {Q E : Value → Shared → Prop} {s : Shared} (h : Halt (wpAny M A (call (.ref 101) args) Q E s)) : wpAny M A (call (.ref 101) args) Q E s := h
local macro_rules | `(tactic| walk_at "call ref") => `(tactic| (k_here; refine halt101 ?_))
theorem mid_mem {α : Type} {A B C : List α} {p : α} (h : p ∈ B ++ (A ++ C)) : p ∈ A ++ (B ++ C) := by
  rcases List.mem_append.mp h with h | h
  · exact List.mem_append_right _ (List.mem_append_left _ h)
  · rcases List.mem_append.mp h with h | h
    · exact List.mem_append_left _ h
    · exact List.mem_append_right _ (List.mem_append_right _ h)
theorem turn1 {w : World} {p : Program} {loose : List PySem.Str} {mean : ExcName → Option Value} {mg mb : PySem.Str → Option Value} (dp un : Nat) (gd : Option (List Code)) (a : Addr) (ccd : Value) (outer : List Env) (A₀ : Around) (base h₀ : Heap) (L : Addr) (s : Shared) (c1 c2 c3 c4 c5 c6 c7 c8 c9 c10 : Obj) (m : PySem.Str → Option Value) (tail : List (Addr × Obj)) (Dp : Addr) (vp : List Value) (np : Nat) (xs : List PySem.Str) (sz : List Int) (v3 v4 : Option Value)
    (Q : Flow → Shared → Prop) (E : Value → Shared → Prop) (B : Below A₀ base outer h₀) (F : Fr h₀ L s.heap m) (X : (K w.params).In h₀) (N : News h₀ L s.heap ((Dp, W.listOf vp.toArray np) :: (L + 1 + 1 + 1 + 1 + 1 + 1 + 1 + 1 + 1 + 1, c1) :: (L + 1 + 1 + 1 + 1 + 1 + 1 + 1 + 1 + 1, c2) :: (L + 1 + 1 + 1 + 1 + 1 + 1 + 1 + 1, c3) :: (L + 1 + 1 + 1 + 1 + 1 + 1 + 1, c4) :: (L + 1 + 1 + 1 + 1 + 1 + 1, c5) :: (L + 1 + 1 + 1 + 1 + 1, c6) :: (L + 1 + 1 + 1 + 1, c7) :: (L + 1 + 1 + 1, c8) :: (L + 1 + 1, c9) :: (L + 1, c10) :: tail)) (T : Top p loose mean mg mb h₀) (hd : dp + 100 < recursionLimit) (hu : un + 400 < cLine)
    (d7 : c7.data = .cell (some (.ref Dp))) (d4 : c4.data = .cell v4) (d3 : c3.data = .cell v3) (hvp : StrsAre vp xs) (hxs : PilesAre xs sz) (hsz : ∀ s ∈ sz, 1 ≤ s ∧ s ≤ 8) (hl8 : sz.length ≤ 8) (hlen : (lineS sz).length ≤ 100) (hDp : @Ne Nat (L + 1 + 1 + 1 + 1 + 1 + 1 + 1 + 1 + 1 + 1) Dp ∧ @Ne Nat (L + 1 + 1 + 1 + 1 + 1 + 1 + 1 + 1 + 1) Dp ∧ @Ne Nat (L + 1 + 1 + 1 + 1 + 1 + 1 + 1 + 1) Dp ∧ @Ne Nat (L + 1 + 1 + 1 + 1 + 1 + 1 + 1) Dp ∧ @Ne Nat (L + 1 + 1 + 1 + 1 + 1 + 1) Dp ∧ @Ne Nat (L + 1 + 1 + 1 + 1 + 1) Dp ∧ @Ne Nat (L + 1 + 1 + 1 + 1) Dp ∧ @Ne Nat (L + 1 + 1 + 1) Dp ∧ @Ne Nat (L + 1 + 1) Dp ∧ @Ne Nat (L + 1) Dp) (hg7 : ∀ q ∈ tail, q.1 ≠ L + 1 + 1 + 1 + 1 + 1 + 1 + 1) (hg8 : ∀ q ∈ tail, q.1 ≠ L + 1 + 1 + 1 + 1 + 1 + 1 + 1 + 1)
    (cont : ∀ (o : Ws) (D : Addr) (zs : List Value) (x : PySem.Str) (t : Tok) (c3' c4' : Obj) h' tk', x.cps.toList = lineS sz → IntsAre o.its o.cs → wsRun (leadS sz) ([], 0, 0, 0) = (o.cs, o.b, o.n, o.nt) → IntsAre zs sz → c4'.data = .cell (some (.ref o.I)) → c3'.data = .cell (some (.ref D)) →
      (∀ q ∈ (Dp, W.listOf vp.toArray np) :: (L + 1 + 1 + 1 + 1 + 1 + 1 + 1 + 1 + 1 + 1, c1) :: (L + 1 + 1 + 1 + 1 + 1 + 1 + 1 + 1 + 1, c2) :: (L + 1 + 1 + 1 + 1 + 1 + 1 + 1 + 1, c3) :: (L + 1 + 1 + 1 + 1 + 1 + 1 + 1, c4) :: (L + 1 + 1 + 1 + 1 + 1 + 1, c5) :: (L + 1 + 1 + 1 + 1 + 1, c6) :: (L + 1 + 1 + 1 + 1, c7) :: (L + 1 + 1 + 1, c8) :: (L + 1 + 1, c9) :: (L + 1, c10) :: tail, @LT.lt Nat _ q.1 o.d ∧ @LT.lt Nat _ q.1 o.I ∧ @LT.lt Nat _ q.1 o.T ∧ @LT.lt Nat _ q.1 o.P) → (@Ne Nat (L + 1 + 1 + 1 + 1 + 1 + 1 + 1 + 1 + 1 + 1) D ∧ @Ne Nat (L + 1 + 1 + 1 + 1 + 1 + 1 + 1 + 1 + 1) D ∧ @Ne Nat (L + 1 + 1 + 1 + 1 + 1 + 1 + 1 + 1) D ∧ @Ne Nat (L + 1 + 1 + 1 + 1 + 1 + 1 + 1) D ∧ @Ne Nat (L + 1 + 1 + 1 + 1 + 1 + 1) D ∧ @Ne Nat (L + 1 + 1 + 1 + 1 + 1) D ∧ @Ne Nat (L + 1 + 1 + 1 + 1) D ∧ @Ne Nat (L + 1 + 1 + 1) D ∧ @Ne Nat (L + 1 + 1) D ∧ @Ne Nat (L + 1) D) → @Ne Nat Dp D → (∀ q ∈ wsLed w.params o ++ tail, @Ne Nat q.1 D) → Fr h₀ L h' (upd m (.ofString "line") (.str x t)) →
      News h₀ L h' ((D, W.listOf zs.toArray zs.length) :: (Dp, W.listOf vp.toArray np) :: (L + 1 + 1 + 1 + 1 + 1 + 1 + 1 + 1 + 1 + 1, c1) :: (L + 1 + 1 + 1 + 1 + 1 + 1 + 1 + 1 + 1, c2) :: (L + 1 + 1 + 1 + 1 + 1 + 1 + 1 + 1, c3') :: (L + 1 + 1 + 1 + 1 + 1 + 1 + 1, c4') :: (L + 1 + 1 + 1 + 1 + 1 + 1, c5) :: (L + 1 + 1 + 1 + 1 + 1, c6) :: (L + 1 + 1 + 1 + 1, c7) :: (L + 1 + 1 + 1, c8) :: (L + 1 + 1, c9) :: (L + 1, c10) :: (wsLed w.params o ++ tail)) → wpAny (model pw w) (ktrTop dp un gd (.ofString "law") lawScope L a ccd (cellsFrom (L + 1) lawScope.names []) outer) (execs (turnBody.drop 3) (envOfC (.ofString "law") lawScope L a ccd)) Q E { s with heap := h', toks := tk' }) :
    wpAny (model pw w) (ktrTop dp un gd (.ofString "law") lawScope L a ccd (cellsFrom (L + 1) lawScope.names []) outer) (execs (turnBody.drop 0) (envOfC (.ofString "law") lawScope L a ccd)) Q E s := by
  have hDpc := hDp
  have dp10 := hDpc.1
  have dp9 := hDpc.2.1
  have dp8 := hDpc.2.2.1
  have dp7 := hDpc.2.2.2.1
  have dp6 := hDpc.2.2.2.2.1
  have dp5 := hDpc.2.2.2.2.2.1
  have dp4 := hDpc.2.2.2.2.2.2.1
  have dp3 := hDpc.2.2.2.2.2.2.2.1
  have dp2 := hDpc.2.2.2.2.2.2.2.2.1
  have dp1 := hDpc.2.2.2.2.2.2.2.2.2
  clear hDpc
  have hpl := hxs.length
  have hsum := (hxs.line_len hsz).2
  have hjoin : (xs.map (·.length)).sum + xs.length ≤ 1048576 := by omega
  have hjl : (Txt.join (.ofString "") xs).length ≤ 1000 := by rw [join_len]; omega
  have hxl := line_list hxs hsz
  have hx0 : (lineOf (Txt.join (.ofString "") xs)).length ≤ 100 := by rw [list_len hxl]; exact hlen
  have hx1 : (lineOf (Txt.join (.ofString "") xs) ++ PySem.Str.ofString "   k\t").length ≤ 200 := by
    rw [app_len]
    have h2 : (PySem.Str.ofString "   k\t").length = 5 := rfl
    omega
  clear hsum
  refine' law_in (A := fun sc => ktrTop dp un gd (.ofString "law") sc L a ccd (cellsFrom (L + 1) sc.names []) outer) (env := fun sc => envOfC (.ofString "law") sc L a ccd) ?hs ?hb ?_
  case hs => conv => lhs; whnf
  case hb => conv => lhs; whnf
  dsimp only
  (repeat' (first | (k_unfold; (try dsimp only)) | (k_end; wrow_close) | with_reducible ((with_reducible show wpAny _ _ (call (Value.ref _) _) _ _ _); k_dflt (refine' con_line _ _ _ _ _ _ _ _ _ _ _ _ _ _ _ _ _ _ _ _ _ _ _ ?kB ?kF ?kX ?kN ?kT ?kk ?kd ?ku ?e1 ?e2 ?e3 ?e4 ?e5 ?_; (case kB => k_asm); (case kF => k_asm); (case kX => k_asm); (case kN => k_asm); (case kT => k_asm); (case kk => first | assumption | rfl); (case kd => ktr_room); (case ku => ke_room); (case e1 => k_mem); (case e2 => assumption); (case e3 => assumption); (case e4 => rfl); (case e5 => assumption)); intro tq9 hq9 tkq9 Fq9 Nq9; (try k_sweep)) | with_reducible ((with_reducible show wpAny _ _ (binaryOp Operator.Add (Value.str _ _) (Value.str _ _)) _ _ _); (refine wpAny_with_toks (n := 1) (by first | assumption | omega | (dsimp only; omega)) ?_); (refine' KXadd.add ?kxaa ?kxab ?kxac ?_; (case kxaa => kt_len); (case kxab => kt_len); (case kxac => exact Nat.le_of_ble_eq_true rfl)); intro t9q9 k9q9 hl9q9 htk9q9; (try dsimp only at htk9q9)) | with_reducible ((with_reducible show wpAny _ _ (eval (PySem.Expr.ListComp _ _ _ _ ) _) _ _ _); k_dflt (refine ListComp_K (F₀ := by k_asm) (by with_unfolding_all rfl) (by decide) (by rfl) (by decide) (by rfl) ?_)) | with_reducible ((with_reducible show wpAny _ _ (subscriptTail _ _ (Value.ref _) (Value.int _ _)) _ _ _); (with_unfolding_all refine' list_int ?N ?hm ?hi ?h0 ?h1 ?hz ?_ ?k6 ?k7; (case N => k_asm); (case hm => k_mem); (case hi => assumption); (case h0 => first | assumption | omega); (case h1 => first | assumption | omega); (case hz => first | assumption | omega); (case k6 => with_unfolding_all rfl); (case k7 => intro _; with_unfolding_all rfl); k_whole; intro tIq9)) | walk1 | (dsimp only; walk1) | (leave1; (try dsimp only)) | fail))
  unfold Halt
  refine wpAny_with_toks (n := 1) (by first | assumption | omega | (dsimp only; omega)) ?_
  refine' con_init _ _ _ _ _ _ _ _ _ _ _ _ _ _ _ _ _ _ _ _ ?kB ?kF ?kX ?kN ?kT ?kk ?kd ?ku ?e1 ?_
  case kB => k_asm
  case kF => k_asm
  case kX => k_asm
  case kN => k_asm
  case kT => k_asm
  case kk => rfl
  case kd => ktr_room
  case ku => ke_room
  case e1 => assumption
  intro o h1 tk1 hI hlo hrun F1 N1 htk1
  dsimp only at htk1
  obtain ⟨tk2, rfl⟩ : ∃ k, tk1 = k + 1 := ⟨tk1 - 1, by omega⟩
  have hA7 := ws_ne (P := w.params) (n := L + 1 + 1 + 1 + 1 + 1 + 1 + 1) (tail := tail) hlo (b := (L + 1 + 1 + 1 + 1 + 1 + 1 + 1, c4)) (by k_mem) rfl hg7
  have hA8 := ws_ne (P := w.params) (n := L + 1 + 1 + 1 + 1 + 1 + 1 + 1 + 1) (tail := tail) hlo (b := (L + 1 + 1 + 1 + 1 + 1 + 1 + 1 + 1, c3)) (by k_mem) rfl hg8
  have N2 : News h₀ L h1 ((Dp, W.listOf vp.toArray np) :: (L + 1 + 1 + 1 + 1 + 1 + 1 + 1 + 1 + 1 + 1, c1) :: (L + 1 + 1 + 1 + 1 + 1 + 1 + 1 + 1 + 1, c2) :: (L + 1 + 1 + 1 + 1 + 1 + 1 + 1 + 1, c3) :: (L + 1 + 1 + 1 + 1 + 1 + 1 + 1, c4) :: (L + 1 + 1 + 1 + 1 + 1 + 1, c5) :: (L + 1 + 1 + 1 + 1 + 1, c6) :: (L + 1 + 1 + 1 + 1, c7) :: (L + 1 + 1 + 1, c8) :: (L + 1 + 1, c9) :: (L + 1, c10) :: (wsLed w.params o ++ tail)) := news_sub N1 (fun p hp => mid_mem (B := [_, _, _, _, _, _, _, _, _, _, _]) hp)
  clear N1
  obtain ⟨tl2, htl2⟩ : ∃ b, b = wsLed w.params o ++ tail := ⟨_, rfl⟩
  rw [← htl2] at N2 hA7 hA8
  (repeat' (first | (k_unfold; (try dsimp only)) | (k_end; wrow_close) | with_reducible ((with_reducible show wpAny _ _ (call (Value.ref _) _) _ _ _); k_dflt (refine' con_line _ _ _ _ _ _ _ _ _ _ _ _ _ _ _ _ _ _ _ _ _ _ _ ?kB ?kF ?kX ?kN ?kT ?kk ?kd ?ku ?e1 ?e2 ?e3 ?e4 ?e5 ?_; (case kB => k_asm); (case kF => k_asm); (case kX => k_asm); (case kN => k_asm); (case kT => k_asm); (case kk => first | assumption | rfl); (case kd => ktr_room); (case ku => ke_room); (case e1 => k_mem); (case e2 => assumption); (case e3 => assumption); (case e4 => rfl); (case e5 => assumption)); intro tq9 hq9 tkq9 Fq9 Nq9; (try k_sweep)) | with_reducible ((with_reducible show wpAny _ _ (binaryOp Operator.Add (Value.str _ _) (Value.str _ _)) _ _ _); (refine wpAny_with_toks (n := 1) (by first | assumption | omega | (dsimp only; omega)) ?_); (refine' KXadd.add ?kxaa ?kxab ?kxac ?_; (case kxaa => kt_len); (case kxab => kt_len); (case kxac => exact Nat.le_of_ble_eq_true rfl)); intro t9q9 k9q9 hl9q9 htk9q9; (try dsimp only at htk9q9)) | with_reducible ((with_reducible show wpAny _ _ (eval (PySem.Expr.ListComp _ _ _ _ ) _) _ _ _); k_dflt (refine ListComp_K (F₀ := by k_asm) (by with_unfolding_all rfl) (by decide) (by rfl) (by decide) (by rfl) ?_)) | with_reducible ((with_reducible show wpAny _ _ (subscriptTail _ _ (Value.ref _) (Value.int _ _)) _ _ _); (with_unfolding_all refine' list_int ?N ?hm ?hi ?h0 ?h1 ?hz ?_ ?k6 ?k7; (case N => k_asm); (case hm => k_mem); (case hi => assumption); (case h0 => first | assumption | omega); (case h1 => first | assumption | omega); (case hz => first | assumption | omega); (case k6 => with_unfolding_all rfl); (case k7 => intro _; with_unfolding_all rfl); k_whole; intro tIq9)) | walk1 | (dsimp only; walk1) | (leave1; (try dsimp only)) | fail))
  unfold Halt
  rename Fr _ _ _ _ => F9
  rename News _ _ _ _ => N9
  rename _ = Data.cell (some (Value.ref o.I)) => e4
  obtain ⟨base, hbase, N10⟩ := news_gen N9
  have hDb : (Dp, W.listOf vp.toArray np) ∈ base := by rw [hbase]; k_mem
  have hvl := hvp.length
  refine ⟨_, base, fun i zs => IntsAre zs (sz.take i), vp.toArray.size, _, rfl, by rfl, F9, N10, by rw [sizeLine_eq, List.size_toArray]; omega, ?ht, fun i ys h => by have := h.length; rw [this, List.length_take]; omega, .nil, .inl ⟨_, _, hDb, rfl, rfl⟩, fun g => ?_, ?_⟩
  case ht => first | assumption | (dsimp only; omega)
  · intro i zs v I oI C oC D m₂ h tk E' hin hv htk hinv h3 h4 F5 N5 h7
    obtain ⟨x9, t9, rfl, hx9⟩ := StrsAre.item hvp i v (by simpa using hv)
    obtain ⟨s9, nm9, hs9, hn9, rfl⟩ := piles_at hxs hx9
    have hb9 := hsz s9 (List.mem_of_getElem? hs9)
    obtain ⟨_, he9, _⟩ := pile_of hb9.1 hb9.2 hn9
    refine tests_nil ?_
    rw [if_pos rfl]
    simp only [List.cons_append, List.nil_append] at N5
    clear N10 N9 F9
    (repeat' (first | (k_unfold; (try dsimp only)) | (k_end; wrow_close) | with_reducible ((with_reducible show wpAny _ _ (call (Value.ref _) _) _ _ _); k_dflt (refine' con_line _ _ _ _ _ _ _ _ _ _ _ _ _ _ _ _ _ _ _ _ _ _ _ ?kB ?kF ?kX ?kN ?kT ?kk ?kd ?ku ?e1 ?e2 ?e3 ?e4 ?e5 ?_; (case kB => k_asm); (case kF => k_asm); (case kX => k_asm); (case kN => k_asm); (case kT => k_asm); (case kk => first | assumption | rfl); (case kd => ktr_room); (case ku => ke_room); (case e1 => k_mem); (case e2 => assumption); (case e3 => assumption); (case e4 => rfl); (case e5 => assumption)); intro tq9 hq9 tkq9 Fq9 Nq9; (try k_sweep)) | with_reducible ((with_reducible show wpAny _ _ (binaryOp Operator.Add (Value.str _ _) (Value.str _ _)) _ _ _); (refine wpAny_with_toks (n := 1) (by first | assumption | omega | (dsimp only; omega)) ?_); (refine' KXadd.add ?kxaa ?kxab ?kxac ?_; (case kxaa => kt_len); (case kxab => kt_len); (case kxac => exact Nat.le_of_ble_eq_true rfl)); intro t9q9 k9q9 hl9q9 htk9q9; (try dsimp only at htk9q9)) | with_reducible ((with_reducible show wpAny _ _ (eval (PySem.Expr.ListComp _ _ _ _ ) _) _ _ _); k_dflt (refine ListComp_K (F₀ := by k_asm) (by with_unfolding_all rfl) (by decide) (by rfl) (by decide) (by rfl) ?_)) | with_reducible ((with_reducible show wpAny _ _ (subscriptTail _ _ (Value.ref _) (Value.int _ _)) _ _ _); (with_unfolding_all refine' list_int ?N ?hm ?hi ?h0 ?h1 ?hz ?_ ?k6 ?k7; (case N => k_asm); (case hm => k_mem); (case hi => assumption); (case h0 => first | assumption | omega); (case h1 => first | assumption | omega); (case hz => first | assumption | omega); (case k6 => with_unfolding_all rfl); (case k7 => intro _; with_unfolding_all rfl); k_whole; intro tIq9)) | walk1 | (dsimp only; walk1) | (leave1; (try dsimp only)) | fail))
    unfold Halt
    refine' con_countOf _ _ _ _ _ _ _ _ _ _ _ _ _ _ _ _ _ _ _ _ _ ?kB ?kF ?kX ?kN ?kT ?kk ?kd ?ku ?e1 ?e2 ?e3 ?_
    case kB => k_asm
    case kF => k_asm
    case kX => k_asm
    case kN => k_asm
    case kT => k_asm
    case kk => rfl
    case kd => ktr_room
    case ku => ke_room
    case e1 => trivial
    case e2 => assumption
    case e3 => first | assumption | (dsimp only; omega)
    intro t8 h8 tk8 F8 N8
    rw [he9]
    (repeat' (first | (k_unfold; (try dsimp only)) | (k_end; wrow_close) | with_reducible ((with_reducible show wpAny _ _ (call (Value.ref _) _) _ _ _); k_dflt (refine' con_line _ _ _ _ _ _ _ _ _ _ _ _ _ _ _ _ _ _ _ _ _ _ _ ?kB ?kF ?kX ?kN ?kT ?kk ?kd ?ku ?e1 ?e2 ?e3 ?e4 ?e5 ?_; (case kB => k_asm); (case kF => k_asm); (case kX => k_asm); (case kN => k_asm); (case kT => k_asm); (case kk => first | assumption | rfl); (case kd => ktr_room); (case ku => ke_room); (case e1 => k_mem); (case e2 => assumption); (case e3 => assumption); (case e4 => rfl); (case e5 => assumption)); intro tq9 hq9 tkq9 Fq9 Nq9; (try k_sweep)) | with_reducible ((with_reducible show wpAny _ _ (binaryOp Operator.Add (Value.str _ _) (Value.str _ _)) _ _ _); (refine wpAny_with_toks (n := 1) (by first | assumption | omega | (dsimp only; omega)) ?_); (refine' KXadd.add ?kxaa ?kxab ?kxac ?_; (case kxaa => kt_len); (case kxab => kt_len); (case kxac => exact Nat.le_of_ble_eq_true rfl)); intro t9q9 k9q9 hl9q9 htk9q9; (try dsimp only at htk9q9)) | with_reducible ((with_reducible show wpAny _ _ (eval (PySem.Expr.ListComp _ _ _ _ ) _) _ _ _); k_dflt (refine ListComp_K (F₀ := by k_asm) (by with_unfolding_all rfl) (by decide) (by rfl) (by decide) (by rfl) ?_)) | with_reducible ((with_reducible show wpAny _ _ (subscriptTail _ _ (Value.ref _) (Value.int _ _)) _ _ _); (with_unfolding_all refine' list_int ?N ?hm ?hi ?h0 ?h1 ?hz ?_ ?k6 ?k7; (case N => k_asm); (case hm => k_mem); (case hi => assumption); (case h0 => first | assumption | omega); (case h1 => first | assumption | omega); (case hz => first | assumption | omega); (case k6 => with_unfolding_all rfl); (case k7 => intro _; with_unfolding_all rfl); k_whole; intro tIq9)) | walk1 | (dsimp only; walk1) | (leave1; (try dsimp only)) | fail))
    all_goals unfold Halt
    exact KSt.intro F8 N8 (ints_snoc_at hinv hs9)
  · intro D h tk ys hinv F8 N8 hoff
    try dsimp only at hinv
    rw [List.size_toArray, hvl, hpl, List.take_length] at hinv
    rw [hbase] at N8 hoff
    clear N10 N9 F9
    have hyl := hinv.length
    have hOa : ∀ p : Addr × Obj, p ∈ _ → @Ne Nat p.1 D := hoff
    clear hoff
    simp only [List.forall_mem_cons] at hOa
    have hOc := hOa
    have od := hOc.1
    replace hOc := hOc.2
    have oc10 := hOc.1
    have oc9 := hOc.2.1
    have oc8 := hOc.2.2.1
    have oc7 := hOc.2.2.2.1
    have oc6 := hOc.2.2.2.2.1
    have oc5 := hOc.2.2.2.2.2.1
    have oc4 := hOc.2.2.2.2.2.2.1
    have oc3 := hOc.2.2.2.2.2.2.2.1
    have oc2 := hOc.2.2.2.2.2.2.2.2.1
    have oc1 := hOc.2.2.2.2.2.2.2.2.2.1
    have ot := hOc.2.2.2.2.2.2.2.2.2.2
    clear hOc
    have N7 : News h₀ L h ((D, W.listOf ys.toArray ys.length) :: _) := N8
    clear N8
    dsimp only
    show wpAny _ _ _ _ _ _
    (repeat' (first | (k_unfold; (try dsimp only)) | (k_end; wrow_close) | with_reducible ((with_reducible show wpAny _ _ (call (Value.ref _) _) _ _ _); k_dflt (refine' con_line _ _ _ _ _ _ _ _ _ _ _ _ _ _ _ _ _ _ _ _ _ _ _ ?kB ?kF ?kX ?kN ?kT ?kk ?kd ?ku ?e1 ?e2 ?e3 ?e4 ?e5 ?_; (case kB => k_asm); (case kF => k_asm); (case kX => k_asm); (case kN => k_asm); (case kT => k_asm); (case kk => first | assumption | rfl); (case kd => ktr_room); (case ku => ke_room); (case e1 => k_mem); (case e2 => assumption); (case e3 => assumption); (case e4 => rfl); (case e5 => assumption)); intro tq9 hq9 tkq9 Fq9 Nq9; (try k_sweep)) | with_reducible ((with_reducible show wpAny _ _ (binaryOp Operator.Add (Value.str _ _) (Value.str _ _)) _ _ _); (refine wpAny_with_toks (n := 1) (by first | assumption | omega | (dsimp only; omega)) ?_); (refine' KXadd.add ?kxaa ?kxab ?kxac ?_; (case kxaa => kt_len); (case kxab => kt_len); (case kxac => exact Nat.le_of_ble_eq_true rfl)); intro t9q9 k9q9 hl9q9 htk9q9; (try dsimp only at htk9q9)) | with_reducible ((with_reducible show wpAny _ _ (eval (PySem.Expr.ListComp _ _ _ _ ) _) _ _ _); k_dflt (refine ListComp_K (F₀ := by k_asm) (by with_unfolding_all rfl) (by decide) (by rfl) (by decide) (by rfl) ?_)) | with_reducible ((with_reducible show wpAny _ _ (subscriptTail _ _ (Value.ref _) (Value.int _ _)) _ _ _); (with_unfolding_all refine' list_int ?N ?hm ?hi ?h0 ?h1 ?hz ?_ ?k6 ?k7; (case N => k_asm); (case hm => k_mem); (case hi => assumption); (case h0 => first | assumption | omega); (case h1 => first | assumption | omega); (case hz => first | assumption | omega); (case k6 => with_unfolding_all rfl); (case k7 => intro _; with_unfolding_all rfl); k_whole; intro tIq9)) | walk1 | (dsimp only; walk1) | (leave1; (try dsimp only)) | fail))
    unfold Halt
    rename Fr _ _ _ _ => F7
    rename News _ _ _ _ => N9
    rename _ = Data.cell (some (Value.ref D)) => e3
    rw [htl2] at N9 hOa
    exact cont o D ys _ _ _ _ _ _ hxl hI (by rw [← lead_list hxl]; exact hrun) hinv e4 e3 hlo ⟨hOa.2.1, hOa.2.2.1, hOa.2.2.2.1, hOa.2.2.2.2.1, hOa.2.2.2.2.2.1, hOa.2.2.2.2.2.2.1, hOa.2.2.2.2.2.2.2.1, hOa.2.2.2.2.2.2.2.2.1, hOa.2.2.2.2.2.2.2.2.2.1, hOa.2.2.2.2.2.2.2.2.2.2.1⟩ hOa.1 hOa.2.2.2.2.2.2.2.2.2.2.2 F7 N9
end
section
set_option linter.unusedVariables false
set_option maxRecDepth 100000
set_option maxHeartbeats 4000000
theorem sorted_two {a b c : List Int} (h1 : a.Perm c) (h2 : b.Perm c) (s1 : List.Pairwise (fun x y => x ≤ y) a) (s2 : List.Pairwise (fun x y => x ≤ y) b) : a = b := sorted_perm (h1.trans h2.symm) s1 s2
section
variable {prog : Program} {w : World} {A : Around} {E : Value → Shared → Prop} {s : Shared} {h₀ : Heap} {L : Addr} {news : List (Addr × Obj)} {Q : Value → Shared → Prop}
theorem norm_ne_same {P1 T1 P2 T2 : Addr} {i1 i2 : List Value} {c1 c2 : List Int} {b1 b2 : Int} {tb1 tb2 : Tok} (N : News h₀ L s.heap news) (h1 : (P1, ({ cls := .type "tuple", data := .seq #[.ref T1, .int b1 tb1] } : Obj)) ∈ news) (h2 : (T1, ({ cls := .type "tuple", data := .seq i1.toArray } : Obj)) ∈ news) (hi1 : IntsAre i1 c1)
    (h3 : (P2, ({ cls := .type "tuple", data := .seq #[.ref T2, .int b2 tb2] } : Obj)) ∈ news) (h4 : (T2, ({ cls := .type "tuple", data := .seq i2.toArray } : Obj)) ∈ news) (hi2 : IntsAre i2 c2) (hu : A.units + 64 < cLine)
    (e : c1 = c2) (e' : b1 = b2) (h : Q (.bool false) s) : wpAny (model prog w) A (compareOp .NotEq (.ref P1) (.ref P2)) Q E s :=
  norm_ne N h1 h2 hi1 h3 h4 hi2 hu (by rw [decide_eq_true ⟨e, e'⟩]; exact h)
end
local macro_rules | `(tactic| walk_at "compareOp NotEq ref ref") => `(tactic| (k_here; first
  | k_dflt (refine' ne_ints_same ?N ?ha ?hb ?hi ?hj ?hu ?he ?_; (case N => k_asm); (case ha => k_mem); (case hb => k_mem); (case hi => assumption); (case hj => assumption); (case hu => ke_room); (case he => exact sorted_two (by assumption) (by assumption) (by assumption) (by assumption)))
  | k_dflt (refine' norm_ne_same ?N ?h1 ?h2 ?h3 ?h4 ?h5 ?h6 ?hu ?he ?he' ?_; (case N => k_asm); (case h1 => k_mem); (case h2 => k_mem); (case h3 => assumption); (case h4 => k_mem); (case h5 => k_mem); (case h6 => assumption); (case hu => ke_room); (case he => assumption); (case he' => assumption))))
theorem haltT2 {M : Model} {A : Around} {q1 : Pos} {q2 : Pos} {e : PySem.Expr} {r : List Stmt} {env : Env} {Q : Flow → Shared → Prop} {E : Value → Shared → Prop} {s : Shared} (h : Halt (wpAny M A (execs (Stmt.Assign [PySem.Expr.Name (PySem.Str.ofString "same") q1] e q2 :: r) env) Q E s)) : wpAny M A (execs (Stmt.Assign [PySem.Expr.Name (PySem.Str.ofString "same") q1] e q2 :: r) env) Q E s := h
local macro_rules | `(tactic| walk_at "execs cons") => `(tactic| (with_reducible refine haltT2 ?_))
theorem turn2 {w : World} {p : Program} {loose : List PySem.Str} {mean : ExcName → Option Value} {mg mb : PySem.Str → Option Value} (dp un : Nat) (gd : Option (List Code)) (a : Addr) (ccd : Value) (outer : List Env) (A₀ : Around) (base h₀ : Heap) (L : Addr) (s : Shared) (c1 c2 c3 c4 c5 c6 c7 c8 c9 c10 : Obj) (m : PySem.Str → Option Value) (tail : List (Addr × Obj)) (D Dd : Addr) (zs vd : List Value) (nd : Nat) (sz ds : List Int) (b : Int) (o : Ws)
    (Q : Flow → Shared → Prop) (E : Value → Shared → Prop) (B : Below A₀ base outer h₀) (F : Fr h₀ L s.heap m) (X : (K w.params).In h₀) (N : News h₀ L s.heap ((D, W.listOf zs.toArray zs.length) :: (Dd, W.listOf vd.toArray nd) :: (L + 1 + 1 + 1 + 1 + 1 + 1 + 1 + 1 + 1 + 1, c1) :: (L + 1 + 1 + 1 + 1 + 1 + 1 + 1 + 1 + 1, c2) :: (L + 1 + 1 + 1 + 1 + 1 + 1 + 1 + 1, c3) :: (L + 1 + 1 + 1 + 1 + 1 + 1 + 1, c4) :: (L + 1 + 1 + 1 + 1 + 1 + 1, c5) :: (L + 1 + 1 + 1 + 1 + 1, c6) :: (L + 1 + 1 + 1 + 1, c7) :: (L + 1 + 1 + 1, c8) :: (L + 1 + 1, c9) :: (L + 1, c10) :: (wsLed w.params o ++ tail))) (T : Top p loose mean mg mb h₀) (hd : dp + 100 < recursionLimit) (hu : un + 400 < cLine)
    (hvdue : m (.ofString "due") = some (.ref Dd)) (d4 : c4.data = .cell (some (.ref o.I))) (d3 : c3.data = .cell (some (.ref D))) (hzs : IntsAre zs sz) (hvd : IntsAre vd ds) (hio : IntsAre o.its o.cs) (hdp : ds.Perm sz) (hdo : List.Pairwise (fun x y => x ≤ y) ds) (hlast : ds.getLast? = some b) (hb : ∀ d ∈ ds, 0 ≤ d ∧ d ≤ b) (hb40 : b ≤ 40) (hl8 : sz.length ≤ 8) (hno1 : o.cs = normC ds b) (hno2 : o.b = 3)
    (cont : ∀ h' tk', Fr h₀ L h' m → News h₀ L h' ((D, W.listOf zs.toArray zs.length) :: (Dd, W.listOf vd.toArray nd) :: (L + 1 + 1 + 1 + 1 + 1 + 1 + 1 + 1 + 1 + 1, c1) :: (L + 1 + 1 + 1 + 1 + 1 + 1 + 1 + 1 + 1, c2) :: (L + 1 + 1 + 1 + 1 + 1 + 1 + 1 + 1, c3) :: (L + 1 + 1 + 1 + 1 + 1 + 1 + 1, c4) :: (L + 1 + 1 + 1 + 1 + 1 + 1, c5) :: (L + 1 + 1 + 1 + 1 + 1, c6) :: (L + 1 + 1 + 1 + 1, c7) :: (L + 1 + 1 + 1, c8) :: (L + 1 + 1, c9) :: (L + 1, c10) :: (wsLed w.params o ++ tail)) → wpAny (model pw w) (ktrTop dp un gd (.ofString "law") lawScope L a ccd (cellsFrom (L + 1) lawScope.names []) outer) (execs (turnBody.drop 4) (envOfC (.ofString "law") lawScope L a ccd)) Q E { s with heap := h', toks := tk' }) :
    wpAny (model pw w) (ktrTop dp un gd (.ofString "law") lawScope L a ccd (cellsFrom (L + 1) lawScope.names []) outer) (execs (turnBody.drop 3) (envOfC (.ofString "law") lawScope L a ccd)) Q E s := by
  have hdl : ds.length ≤ 40 := by have := hdp.length_eq; omega
  have hdl8 : ds.length ≤ 8 := by have := hdp.length_eq; omega
  have hzl := hzs.length
  simp only [wsLed, List.cons_append, List.nil_append] at N
  have hvs : ∀ p ∈ ([(.ofString "due", .ref Dd)] : List (PySem.Str × Value)), m p.1 = some p.2 := List.forall_mem_cons.mpr ⟨hvdue, List.forall_mem_nil _⟩
  have F := fr_over F hvs
  refine' law_in (A := fun sc => ktrTop dp un gd (.ofString "law") sc L a ccd (cellsFrom (L + 1) sc.names []) outer) (env := fun sc => envOfC (.ofString "law") sc L a ccd) ?hs ?hb ?_
  case hs => conv => lhs; whnf
  case hb => conv => lhs; whnf
  dsimp only
  (repeat' (first | (k_unfold; (try dsimp only)) | (k_end; wrow_close) | with_reducible ((with_reducible show wpAny _ _ (call (Value.ref _) _) _ _ _); k_dflt (refine' con_norm _ _ _ _ _ _ _ _ _ _ _ _ _ _ _ _ _ _ _ _ _ _ _ ?kB ?kF ?kX ?kN ?kT ?kk ?kd ?ku ?e1 ?e2 ?e3 ?e4 ?e5 ?e6 ?_; (case kB => k_asm); (case kF => k_asm); (case kX => k_asm); (case kN => k_asm); (case kT => k_asm); (case kk => first | assumption | rfl); (case kd => ktr_room); (case ku => ke_room); (case e1 => k_mem); (case e2 => assumption); (case e3 => assumption); (case e4 => assumption); (case e5 => assumption); (case e6 => assumption)); intro P9q9 T9q9 its9q9 t9q9 hq9 tkq9 hi9q9 Fq9 Nq9; (try k_sweep)) | walk1 | (dsimp only; walk1) | (leave1; (try dsimp only)) | fail))
  unfold Halt
  rename Fr _ _ _ _ => F9
  rename News _ _ _ _ => N9
  exact cont _ _ (fr_base hvs F9) (fun p hp => N9 p (.tail _ (.tail _ (.tail _ hp))))
end
section
set_option linter.unusedVariables false
set_option maxRecDepth 100000
set_option maxHeartbeats 4000000
theorem ne_nil_nil {prog : Program} {w : World} {A : Around} {E : Value → Shared → Prop} {s : Shared} {h₀ : Heap} {L : Addr} {news : List (Addr × Obj)} {Q : Value → Shared → Prop} {a b : Addr} {n1 n2 : Nat} (N : News h₀ L s.heap news) (ha : (a, W.listOf #[] n1) ∈ news) (hb : (b, W.listOf #[] n2) ∈ news) (hu : A.units + 64 < cLine) (h : Q (.bool false) s) : wpAny (model prog w) A (compareOp .NotEq (.ref a) (.ref b)) Q E s :=
  ne_ints_led (xs := []) (ys := []) N ha hb .nil .nil hu h
local macro_rules | `(tactic| walk_at "CompSrc") => `(tactic| walk_at "mine.1")
local macro_rules | `(tactic| walk_at "CompEnd") => `(tactic| walk_at "mine.1")
local macro_rules | `(tactic| walk_at "FinE") => `(tactic| walk_at "mine.1")
local macro_rules | `(tactic| walk_at "CompSrcT") => `(tactic| walk_at "mine.1")
theorem haltT3 {M : Model} {A : Around} {q1 : Pos} {q2 : Pos} {e : PySem.Expr} {r : List Stmt} {env : Env} {Q : Flow → Shared → Prop} {E : Value → Shared → Prop} {s : Shared} (h : Halt (wpAny M A (execs (Stmt.Assign [PySem.Expr.Name (PySem.Str.ofString "met") q1] e q2 :: r) env) Q E s)) : wpAny M A (execs (Stmt.Assign [PySem.Expr.Name (PySem.Str.ofString "met") q1] e q2 :: r) env) Q E s := h
local macro_rules | `(tactic| walk_at "execs cons") => `(tactic| (with_reducible refine haltT3 ?_))
theorem halt59 {M : Model} {A : Around} {args : List Value} {Q E : Value → Shared → Prop} {s : Shared} (h : Halt (wpAny M A (call (.ref 59) args) Q E s)) : wpAny M A (call (.ref 59) args) Q E s := h
local macro_rules | `(tactic| walk_at "call ref") => `(tactic| (k_here; refine halt59 ?_))
theorem turn3 {w : World} {p : Program} {loose : List PySem.Str} {mean : ExcName → Option Value} {mg mb : PySem.Str → Option Value} (dp un : Nat) (gd : Option (List Code)) (a : Addr) (ccd : Value) (outer : List Env) (A₀ : Around) (base h₀ : Heap) (L : Addr) (s : Shared) (c1 c2 c3 c4 c5 c6 c7 c8 c9 c10 : Obj) (m : PySem.Str → Option Value) (tail : List (Addr × Obj)) (Dl : Addr) (lv : List Value) (nl : Nat) (i : Nat) (ti : Tok) (o : Ws) (os : List Ws) (v2 : Option Value)
    (Q : Flow → Shared → Prop) (E : Value → Shared → Prop) (B : Below A₀ base outer h₀) (F : Fr h₀ L s.heap m) (X : (K w.params).In h₀) (N : News h₀ L s.heap ((Dl, W.listOf lv.toArray nl) :: (L + 1 + 1 + 1 + 1 + 1 + 1 + 1 + 1 + 1 + 1, c1) :: (L + 1 + 1 + 1 + 1 + 1 + 1 + 1 + 1 + 1, c2) :: (L + 1 + 1 + 1 + 1 + 1 + 1 + 1 + 1, c3) :: (L + 1 + 1 + 1 + 1 + 1 + 1 + 1, c4) :: (L + 1 + 1 + 1 + 1 + 1 + 1, c5) :: (L + 1 + 1 + 1 + 1 + 1, c6) :: (L + 1 + 1 + 1 + 1, c7) :: (L + 1 + 1 + 1, c8) :: (L + 1 + 1, c9) :: (L + 1, c10) :: (wsLed w.params o ++ tail))) (T : Top p loose mean mg mb h₀) (hd : dp + 100 < recursionLimit) (hu : un + 400 < cLine)
    (hvturn : m (.ofString "turn") = some (.int (0 + (i : Int)) ti)) (d6 : c6.data = .cell (some (.ref Dl))) (d4 : c4.data = .cell (some (.ref o.I))) (d2 : c2.data = .cell v2) (hlv : lv = os.map fun o => .ref o.I) (hol : os.length = i) (hi24 : i < 24) (hio : IntsAre o.its o.cs) (hios : ∀ q ∈ os, IntsAre q.its q.cs) (hosm : ∀ q ∈ os, ∀ p ∈ wsLed w.params q, p ∈ tail) (hgo : ∀ q ∈ wsLed w.params o, @LT.lt Nat _ (L + 1 + 1 + 1 + 1 + 1 + 1 + 1 + 1 + 1 + 1) q.1) (hg9 : ∀ q ∈ tail, q.1 ≠ L + 1 + 1 + 1 + 1 + 1 + 1 + 1 + 1 + 1) (hDl : @Ne Nat (L + 1 + 1 + 1 + 1 + 1 + 1 + 1 + 1 + 1 + 1) Dl ∧ @Ne Nat (L + 1 + 1 + 1 + 1 + 1 + 1 + 1 + 1 + 1) Dl ∧ @Ne Nat (L + 1 + 1 + 1 + 1 + 1 + 1 + 1 + 1) Dl ∧ @Ne Nat (L + 1 + 1 + 1 + 1 + 1 + 1 + 1) Dl ∧ @Ne Nat (L + 1 + 1 + 1 + 1 + 1 + 1) Dl ∧ @Ne Nat (L + 1 + 1 + 1 + 1 + 1) Dl ∧ @Ne Nat (L + 1 + 1 + 1 + 1) Dl ∧ @Ne Nat (L + 1 + 1 + 1) Dl ∧ @Ne Nat (L + 1 + 1) Dl ∧ @Ne Nat (L + 1) Dl)
    (cont : ∀ (D : Addr) (c2' : Obj) h' tk', c2'.data = .cell (some (.ref D)) → (@Ne Nat (L + 1 + 1 + 1 + 1 + 1 + 1 + 1 + 1 + 1 + 1) D ∧ @Ne Nat (L + 1 + 1 + 1 + 1 + 1 + 1 + 1 + 1 + 1) D ∧ @Ne Nat (L + 1 + 1 + 1 + 1 + 1 + 1 + 1 + 1) D ∧ @Ne Nat (L + 1 + 1 + 1 + 1 + 1 + 1 + 1) D ∧ @Ne Nat (L + 1 + 1 + 1 + 1 + 1 + 1) D ∧ @Ne Nat (L + 1 + 1 + 1 + 1 + 1) D ∧ @Ne Nat (L + 1 + 1 + 1 + 1) D ∧ @Ne Nat (L + 1 + 1 + 1) D ∧ @Ne Nat (L + 1 + 1) D ∧ @Ne Nat (L + 1) D) → @Ne Nat Dl D → (∀ q ∈ wsLed w.params o ++ tail, @Ne Nat q.1 D) → Fr h₀ L h' m → News h₀ L h' ((D, W.listOf (os.map fun q => Value.bool (decide (q.cs = o.cs ∧ q.b = o.b))).toArray i) :: (Dl, W.listOf lv.toArray nl) :: (L + 1 + 1 + 1 + 1 + 1 + 1 + 1 + 1 + 1 + 1, c1) :: (L + 1 + 1 + 1 + 1 + 1 + 1 + 1 + 1 + 1, c2') :: (L + 1 + 1 + 1 + 1 + 1 + 1 + 1 + 1, c3) :: (L + 1 + 1 + 1 + 1 + 1 + 1 + 1, c4) :: (L + 1 + 1 + 1 + 1 + 1 + 1, c5) :: (L + 1 + 1 + 1 + 1 + 1, c6) :: (L + 1 + 1 + 1 + 1, c7) :: (L + 1 + 1 + 1, c8) :: (L + 1 + 1, c9) :: (L + 1, c10) :: (wsLed w.params o ++ tail)) → wpAny (model pw w) (ktrTop dp un gd (.ofString "law") lawScope L a ccd (cellsFrom (L + 1) lawScope.names []) outer) (execs (turnBody.drop 6) (envOfC (.ofString "law") lawScope L a ccd)) Q E { s with heap := h', toks := tk' }) :
    wpAny (model pw w) (ktrTop dp un gd (.ofString "law") lawScope L a ccd (cellsFrom (L + 1) lawScope.names []) outer) (execs (turnBody.drop 4) (envOfC (.ofString "law") lawScope L a ccd)) Q E s := by
  have hDlc := hDl
  have dl10 := hDlc.1
  have dl9 := hDlc.2.1
  have dl8 := hDlc.2.2.1
  have dl7 := hDlc.2.2.2.1
  have dl6 := hDlc.2.2.2.2.1
  have dl5 := hDlc.2.2.2.2.2.1
  have dl4 := hDlc.2.2.2.2.2.2.1
  have dl3 := hDlc.2.2.2.2.2.2.2.1
  have dl2 := hDlc.2.2.2.2.2.2.2.2.1
  have dl1 := hDlc.2.2.2.2.2.2.2.2.2
  clear hDlc
  simp only [wsLed, List.cons_append, List.nil_append] at N
  simp only [wsLed, List.forall_mem_cons] at hgo
  have hg1 := hgo.1
  have hg2 := hgo.2.1
  have hg3 := hgo.2.2.1
  have hg4 := hgo.2.2.2.1
  have hg5 := hgo.2.2.2.2
  clear hgo
  try dsimp only at hg1 hg2 hg3 hg4
  have hvs : ∀ p ∈ ([(.ofString "turn", .int (0 + (i : Int)) ti)] : List (PySem.Str × Value)), m p.1 = some p.2 := List.forall_mem_cons.mpr ⟨hvturn, List.forall_mem_nil _⟩
  have F := fr_over F hvs
  refine' law_in (A := fun sc => ktrTop dp un gd (.ofString "law") sc L a ccd (cellsFrom (L + 1) sc.names []) outer) (env := fun sc => envOfC (.ofString "law") sc L a ccd) ?hs ?hb ?_
  case hs => conv => lhs; whnf
  case hb => conv => lhs; whnf
  dsimp only
  (repeat' (first | (k_unfold; (try dsimp only)) | (k_end; wrow_close) | with_reducible ((with_reducible show wpAny _ _ (eval (Expr.ListComp _ [PySem.Comprehension.mk _ _ [] _] _ _) _) _ _ _); k_dflt (refine LCg.ListComp_U (F₀ := by k_asm) (by with_unfolding_all rfl) (by decide) (by rfl) (by decide) (by rfl) ?_)) | with_reducible ((with_reducible show wpAny _ _ (eval (PySem.Expr.ListComp _ _ _ _ ) _) _ _ _); k_dflt (refine LCt.ListComp_T (F₀ := by k_asm) (by with_unfolding_all rfl) (by decide) (by rfl) (by decide) (by rfl) ?_)) | with_reducible ((with_reducible show wpAny _ _ (subscriptTail _ _ (Value.ref _) (Value.int _ _)) _ _ _); (with_unfolding_all refine' list_atU ?N ?hm ?h0 ?hz ?hx ?_ ?k6 ?k7; (case N => k_asm); (case hm => k_mem); (case h0 => first | assumption | omega); (case hz => first | assumption | omega); (case hx => assumption); (case k6 => first | exact sub_binop | with_unfolding_all rfl); (case k7 => intro _; with_unfolding_all rfl); k_whole; intro uIq9)) | with_reducible ((with_reducible show wpAny _ _ (compareOp CmpOp.NotEq (Value.ref _) (Value.ref _)) _ _ _); k_dflt (refine' ne_nil_nil ?N ?ha ?hb ?hu ?_; (case N => k_asm); (case ha => k_mem); (case hb => k_mem); (case hu => ke_room))) | walk1 | (dsimp only; walk1) | (leave1; (try dsimp only)) | fail))
  unfold Halt
  rename Fr _ _ _ _ => F9
  rename News _ _ _ _ => N9
  rename IsRange _ _ _ _ _ _ _ _ => R9
  obtain ⟨base, hbase, N10⟩ := news_gen N9
  refine LCg.CompSrc.range (n := ((0 + (i : Int)) - 0).toNat) (by rfl) F9 N10 R9 (small_one (by omega) (by omega) (by omega) (by omega)) (rangeSize_nat _ _) (by rw [sizeLine_eq]; omega) (fun g => ?_)
  refine rest_inv ((0 + (i : Int)) - 0).toNat (fun k zs nw => nw = base ∧ zs = (os.map fun q => Value.bool (decide (q.cs = o.cs ∧ q.b = o.b))).take k) ?turn ?fin ((0 + (i : Int)) - 0).toNat 0 [] _ (by omega) ⟨rfl, rfl⟩
  case turn =>
    rintro k zs nw v I oI C oC D m₂ h tk E' hk ⟨hnw, hz⟩ ⟨t, rfl⟩ h3 h4 h5 h6 h7 h8
    rw [hnw] at h6 h7
    clear hnw
    have hko : k < os.length := by omega
    obtain ⟨q, hq⟩ : ∃ q, os[k]? = some q := ⟨os[k], List.getElem?_eq_getElem hko⟩
    have hqm := List.mem_of_getElem? hq
    have hqi := hios q hqm
    have hx : lv.toArray[(0 + (k : Int)).toNat]? = some (.ref q.I) := by
      rw [hlv, show (0 + (k : Int)).toNat = k by omega, List.getElem?_toArray, List.getElem?_map, hq]; rfl
    have h9 : News h₀ L h (wsLed w.params q ++ ((I, oI) :: (C, oC) :: (D, LCg.lst zs) :: base)) := fun p hp => h6 p (by
      rcases List.mem_append.mp hp with hp | hp
      · refine .tail _ (.tail _ (.tail _ ?_))
        rw [hbase]
        have := hosm q hqm p hp
        repeat (first | exact this | apply List.mem_cons_of_mem)
      · exact hp)
    rw [hbase] at h9
    simp only [wsLed, List.cons_append, List.nil_append] at h9
    clear h6 N10 N9 F9 R9
    (repeat' (first | (k_unfold; (try dsimp only)) | (k_end; wrow_close) | with_reducible ((with_reducible show wpAny _ _ (eval (Expr.ListComp _ [PySem.Comprehension.mk _ _ [] _] _ _) _) _ _ _); k_dflt (refine LCg.ListComp_U (F₀ := by k_asm) (by with_unfolding_all rfl) (by decide) (by rfl) (by decide) (by rfl) ?_)) | with_reducible ((with_reducible show wpAny _ _ (eval (PySem.Expr.ListComp _ _ _ _ ) _) _ _ _); k_dflt (refine LCt.ListComp_T (F₀ := by k_asm) (by with_unfolding_all rfl) (by decide) (by rfl) (by decide) (by rfl) ?_)) | with_reducible ((with_reducible show wpAny _ _ (subscriptTail _ _ (Value.ref _) (Value.int _ _)) _ _ _); (with_unfolding_all refine' list_atU ?N ?hm ?h0 ?hz ?hx ?_ ?k6 ?k7; (case N => k_asm); (case hm => k_mem); (case h0 => first | assumption | omega); (case hz => first | assumption | omega); (case hx => assumption); (case k6 => first | exact sub_binop | with_unfolding_all rfl); (case k7 => intro _; with_unfolding_all rfl); k_whole; intro uIq9)) | with_reducible ((with_reducible show wpAny _ _ (compareOp CmpOp.NotEq (Value.ref _) (Value.ref _)) _ _ _); k_dflt (refine' ne_nil_nil ?N ?ha ?hb ?hu ?_; (case N => k_asm); (case ha => k_mem); (case hb => k_mem); (case hu => ke_room))) | walk1 | (dsimp only; walk1) | (leave1; (try dsimp only)) | fail))
    unfold Halt
    refine' con_equal _ _ _ _ _ _ _ _ _ _ _ _ _ _ _ _ _ _ _ _ ?kB ?kF ?kX ?kN ?kT ?kk ?kd ?ku ?e1 ?e2 ?e3 ?e4 ?e5 ?_
    case kB => k_asm
    case kF => k_asm
    case kX => k_asm
    case kN => k_asm
    case kT => k_asm
    case kk => rfl
    case kd => ktr_room
    case ku => ke_room
    case e1 => exact ws_mem (by k_mem) (by k_mem) (by k_mem) (by k_mem)
    case e2 => exact ws_mem (by k_mem) (by k_mem) (by k_mem) (by k_mem)
    case e3 => assumption
    case e4 => assumption
    case e5 => first | omega | (dsimp only [ktrTop]; omega) | ktr_units
    intro h' tk' t9 F7 N7
    (repeat' (first | (k_unfold; (try dsimp only)) | (k_end; wrow_close) | with_reducible ((with_reducible show wpAny _ _ (eval (Expr.ListComp _ [PySem.Comprehension.mk _ _ [] _] _ _) _) _ _ _); k_dflt (refine LCg.ListComp_U (F₀ := by k_asm) (by with_unfolding_all rfl) (by decide) (by rfl) (by decide) (by rfl) ?_)) | with_reducible ((with_reducible show wpAny _ _ (eval (PySem.Expr.ListComp _ _ _ _ ) _) _ _ _); k_dflt (refine LCt.ListComp_T (F₀ := by k_asm) (by with_unfolding_all rfl) (by decide) (by rfl) (by decide) (by rfl) ?_)) | with_reducible ((with_reducible show wpAny _ _ (subscriptTail _ _ (Value.ref _) (Value.int _ _)) _ _ _); (with_unfolding_all refine' list_atU ?N ?hm ?h0 ?hz ?hx ?_ ?k6 ?k7; (case N => k_asm); (case hm => k_mem); (case h0 => first | assumption | omega); (case hz => first | assumption | omega); (case hx => assumption); (case k6 => first | exact sub_binop | with_unfolding_all rfl); (case k7 => intro _; with_unfolding_all rfl); k_whole; intro uIq9)) | with_reducible ((with_reducible show wpAny _ _ (compareOp CmpOp.NotEq (Value.ref _) (Value.ref _)) _ _ _); k_dflt (refine' ne_nil_nil ?N ?ha ?hb ?hu ?_; (case N => k_asm); (case ha => k_mem); (case hb => k_mem); (case hu => ke_room))) | walk1 | (dsimp only; walk1) | (leave1; (try dsimp only)) | fail))
    unfold Halt
    refine LCg.CompEnd.intro F7 N7 base (fun p hp => ?_) h7 trivial ⟨rfl, ?_⟩
    · rw [hbase] at hp
      repeat (first | exact hp | apply List.mem_cons_of_mem)
    · rw [hz, List.take_add_one, List.getElem?_map, hq]; rfl
  case fin =>
    rintro zs nw ⟨hnw, hz⟩
    intro D h tk F3 N3 O3
    rw [hnw] at N3 O3
    rw [hbase] at O3
    have hOa := off1_mem O3
    have hoff : ∀ q ∈ wsLed w.params o ++ tail, @Ne Nat q.1 D := fun q hq => hOa q (by
      simp only [wsLed, List.cons_append, List.nil_append] at hq
      repeat (first | exact hq | apply List.mem_cons_of_mem))
    simp only [List.forall_mem_cons] at hOa
    have hOc := hOa
    have od := hOc.1
    replace hOc := hOc.2
    have oc10 := hOc.1
    have oc9 := hOc.2.1
    have oc8 := hOc.2.2.1
    have oc7 := hOc.2.2.2.1
    have oc6 := hOc.2.2.2.2.1
    have oc5 := hOc.2.2.2.2.2.1
    have oc4 := hOc.2.2.2.2.2.2.1
    have oc3 := hOc.2.2.2.2.2.2.2.1
    have oc2 := hOc.2.2.2.2.2.2.2.2.1
    have oc1 := hOc.2.2.2.2.2.2.2.2.2.1
    have oP := hOc.2.2.2.2.2.2.2.2.2.2.1
    have oT := hOc.2.2.2.2.2.2.2.2.2.2.2.1
    have oI' := hOc.2.2.2.2.2.2.2.2.2.2.2.2.1
    have oD' := hOc.2.2.2.2.2.2.2.2.2.2.2.2.2.1
    have ot := hOc.2.2.2.2.2.2.2.2.2.2.2.2.2.2
    clear hOc
    have hzl : (os.map fun q => Value.bool (decide (q.cs = o.cs ∧ q.b = o.b))).length = i := by rw [List.length_map]; exact hol
    rw [List.take_of_length_le (by omega)] at hz
    have N4 : News h₀ L h ((D, W.listOf (os.map fun q => Value.bool (decide (q.cs = o.cs ∧ q.b = o.b))).toArray i) :: base) := by
      rw [hz] at N3
      have e : LCg.lst (os.map fun q => Value.bool (decide (q.cs = o.cs ∧ q.b = o.b))) = W.listOf (os.map fun q => Value.bool (decide (q.cs = o.cs ∧ q.b = o.b))).toArray i := by
        show _ = ({ cls := .type "list", data := .seq (os.map fun q => Value.bool (decide (q.cs = o.cs ∧ q.b = o.b))).toArray i } : Obj)
        rw [← hzl]
      rw [e] at N3
      exact N3
    rw [hbase] at N4
    clear N3 hnw N10 N9 F9 O3 R9
    dsimp only
    (repeat' (first | (k_unfold; (try dsimp only)) | (k_end; wrow_close) | with_reducible ((with_reducible show wpAny _ _ (eval (Expr.ListComp _ [PySem.Comprehension.mk _ _ [] _] _ _) _) _ _ _); k_dflt (refine LCg.ListComp_U (F₀ := by k_asm) (by with_unfolding_all rfl) (by decide) (by rfl) (by decide) (by rfl) ?_)) | with_reducible ((with_reducible show wpAny _ _ (eval (PySem.Expr.ListComp _ _ _ _ ) _) _ _ _); k_dflt (refine LCt.ListComp_T (F₀ := by k_asm) (by with_unfolding_all rfl) (by decide) (by rfl) (by decide) (by rfl) ?_)) | with_reducible ((with_reducible show wpAny _ _ (subscriptTail _ _ (Value.ref _) (Value.int _ _)) _ _ _); (with_unfolding_all refine' list_atU ?N ?hm ?h0 ?hz ?hx ?_ ?k6 ?k7; (case N => k_asm); (case hm => k_mem); (case h0 => first | assumption | omega); (case hz => first | assumption | omega); (case hx => assumption); (case k6 => first | exact sub_binop | with_unfolding_all rfl); (case k7 => intro _; with_unfolding_all rfl); k_whole; intro uIq9)) | with_reducible ((with_reducible show wpAny _ _ (compareOp CmpOp.NotEq (Value.ref _) (Value.ref _)) _ _ _); k_dflt (refine' ne_nil_nil ?N ?ha ?hb ?hu ?_; (case N => k_asm); (case ha => k_mem); (case hb => k_mem); (case hu => ke_room))) | walk1 | (dsimp only; walk1) | (leave1; (try dsimp only)) | fail))
    unfold Halt
    rename Fr _ _ _ _ => F9
    rename News _ _ _ _ => N9
    obtain ⟨baseb, hbb, N10⟩ := news_gen N9
    have hDb : (D, W.listOf (os.map fun q => Value.bool (decide (q.cs = o.cs ∧ q.b = o.b))).toArray i) ∈ baseb := by rw [hbb]; k_mem
    refine LCt.CompSrcT.ledger (its := (os.map fun q => Value.bool (decide (q.cs = o.cs ∧ q.b = o.b))).toArray) (by rfl) F9 N10 hDb (by rw [sizeLine_eq, List.size_toArray, hzl]; omega) (fun g => ?_)
    refine restT_inv (os.map fun q => Value.bool (decide (q.cs = o.cs ∧ q.b = o.b))).toArray.size (fun k ys nw => nw = baseb ∧ ys = []) ?turn2 ?fin2 (os.map fun q => Value.bool (decide (q.cs = o.cs ∧ q.b = o.b))).toArray.size 0 [] _ (by omega) ⟨rfl, rfl⟩
    case turn2 =>
      rintro k ys nw v I oI C oC D2 m₂ h tk E' hk ⟨hnw, hy⟩ hv h3 h4 h5 h6 h7 h8
      rw [hnw] at h6 h7
      clear hnw
      obtain ⟨b, rfl⟩ : ∃ b, v = .bool b := by
        rw [List.getElem?_toArray, List.getElem?_map] at hv
        cases e : os[k]? with
        | none => rw [e] at hv; cases hv
        | some q => rw [e] at hv; exact ⟨_, (Option.some.inj hv).symm⟩
      clear hv N10 F9 N9
      cases b
      · (repeat' (first | (k_unfold; (try dsimp only)) | (k_end; wrow_close) | with_reducible ((with_reducible show wpAny _ _ (eval (Expr.ListComp _ [PySem.Comprehension.mk _ _ [] _] _ _) _) _ _ _); k_dflt (refine LCg.ListComp_U (F₀ := by k_asm) (by with_unfolding_all rfl) (by decide) (by rfl) (by decide) (by rfl) ?_)) | with_reducible ((with_reducible show wpAny _ _ (eval (PySem.Expr.ListComp _ _ _ _ ) _) _ _ _); k_dflt (refine LCt.ListComp_T (F₀ := by k_asm) (by with_unfolding_all rfl) (by decide) (by rfl) (by decide) (by rfl) ?_)) | with_reducible ((with_reducible show wpAny _ _ (subscriptTail _ _ (Value.ref _) (Value.int _ _)) _ _ _); (with_unfolding_all refine' list_atU ?N ?hm ?h0 ?hz ?hx ?_ ?k6 ?k7; (case N => k_asm); (case hm => k_mem); (case h0 => first | assumption | omega); (case hz => first | assumption | omega); (case hx => assumption); (case k6 => first | exact sub_binop | with_unfolding_all rfl); (case k7 => intro _; with_unfolding_all rfl); k_whole; intro uIq9)) | with_reducible ((with_reducible show wpAny _ _ (compareOp CmpOp.NotEq (Value.ref _) (Value.ref _)) _ _ _); k_dflt (refine' ne_nil_nil ?N ?ha ?hb ?hu ?_; (case N => k_asm); (case ha => k_mem); (case hb => k_mem); (case hu => ke_room))) | walk1 | (dsimp only; walk1) | (leave1; (try dsimp only)) | fail))
        all_goals unfold Halt
        rename Fr _ _ _ _ => F7
        rename News _ _ _ _ => N7
        exact LCg.CompEnd.intro F7 N7 baseb (fun p hp => hp) h7 (.inr ⟨_, hDb, rfl, _, rfl⟩) ⟨rfl, hy⟩
      · (repeat' (first | (k_unfold; (try dsimp only)) | (k_end; wrow_close) | with_reducible ((with_reducible show wpAny _ _ (eval (Expr.ListComp _ [PySem.Comprehension.mk _ _ [] _] _ _) _) _ _ _); k_dflt (refine LCg.ListComp_U (F₀ := by k_asm) (by with_unfolding_all rfl) (by decide) (by rfl) (by decide) (by rfl) ?_)) | with_reducible ((with_reducible show wpAny _ _ (eval (PySem.Expr.ListComp _ _ _ _ ) _) _ _ _); k_dflt (refine LCt.ListComp_T (F₀ := by k_asm) (by with_unfolding_all rfl) (by decide) (by rfl) (by decide) (by rfl) ?_)) | with_reducible ((with_reducible show wpAny _ _ (subscriptTail _ _ (Value.ref _) (Value.int _ _)) _ _ _); (with_unfolding_all refine' list_atU ?N ?hm ?h0 ?hz ?hx ?_ ?k6 ?k7; (case N => k_asm); (case hm => k_mem); (case h0 => first | assumption | omega); (case hz => first | assumption | omega); (case hx => assumption); (case k6 => first | exact sub_binop | with_unfolding_all rfl); (case k7 => intro _; with_unfolding_all rfl); k_whole; intro uIq9)) | with_reducible ((with_reducible show wpAny _ _ (compareOp CmpOp.NotEq (Value.ref _) (Value.ref _)) _ _ _); k_dflt (refine' ne_nil_nil ?N ?ha ?hb ?hu ?_; (case N => k_asm); (case ha => k_mem); (case hb => k_mem); (case hu => ke_room))) | walk1 | (dsimp only; walk1) | (leave1; (try dsimp only)) | fail))
        all_goals unfold Halt
        rename Fr _ _ _ _ => F7
        rename News _ _ _ _ => N7
        exact LCg.CompEnd.intro F7 N7 baseb (fun p hp => hp) h7 (.inr ⟨_, hDb, rfl, _, rfl⟩) ⟨rfl, hy⟩
    case fin2 =>
      rintro ys nw ⟨hnw, hy⟩
      intro D2 h tk F3 N3 O3
      rw [hnw, hbb] at N3 O3
      have hOb := off1_mem O3
      simp only [List.forall_mem_cons] at hOb
      subst hy
      have N4 : News h₀ L h ((D2, W.listOf #[] 0) :: _) := N3
      clear N3 hnw N10 N9 F9 O3
      dsimp only
      (repeat' (first | (k_unfold; (try dsimp only)) | (k_end; wrow_close) | with_reducible ((with_reducible show wpAny _ _ (eval (Expr.ListComp _ [PySem.Comprehension.mk _ _ [] _] _ _) _) _ _ _); k_dflt (refine LCg.ListComp_U (F₀ := by k_asm) (by with_unfolding_all rfl) (by decide) (by rfl) (by decide) (by rfl) ?_)) | with_reducible ((with_reducible show wpAny _ _ (eval (PySem.Expr.ListComp _ _ _ _ ) _) _ _ _); k_dflt (refine LCt.ListComp_T (F₀ := by k_asm) (by with_unfolding_all rfl) (by decide) (by rfl) (by decide) (by rfl) ?_)) | with_reducible ((with_reducible show wpAny _ _ (subscriptTail _ _ (Value.ref _) (Value.int _ _)) _ _ _); (with_unfolding_all refine' list_atU ?N ?hm ?h0 ?hz ?hx ?_ ?k6 ?k7; (case N => k_asm); (case hm => k_mem); (case h0 => first | assumption | omega); (case hz => first | assumption | omega); (case hx => assumption); (case k6 => first | exact sub_binop | with_unfolding_all rfl); (case k7 => intro _; with_unfolding_all rfl); k_whole; intro uIq9)) | with_reducible ((with_reducible show wpAny _ _ (compareOp CmpOp.NotEq (Value.ref _) (Value.ref _)) _ _ _); k_dflt (refine' ne_nil_nil ?N ?ha ?hb ?hu ?_; (case N => k_asm); (case ha => k_mem); (case hb => k_mem); (case hu => ke_room))) | walk1 | (dsimp only; walk1) | (leave1; (try dsimp only)) | fail))
      unfold Halt
      rename Fr _ _ _ _ => F7
      rename News _ _ _ _ => N7
      rename _ = Data.cell (some (Value.ref D)) => e2
      exact cont D _ _ _ e2 ⟨hOa.2.1, hOa.2.2.1, hOa.2.2.2.1, hOa.2.2.2.2.1, hOa.2.2.2.2.2.1, hOa.2.2.2.2.2.2.1, hOa.2.2.2.2.2.2.2.1, hOa.2.2.2.2.2.2.2.2.1, hOa.2.2.2.2.2.2.2.2.2.1, hOa.2.2.2.2.2.2.2.2.2.2.1⟩ hOa.1 hoff (fr_base hvs F7) (fun p hp => N7 p (by
        simp only [wsLed, List.cons_append, List.nil_append] at hp
        repeat (first | exact hp | apply List.mem_cons_of_mem)))
end
section
set_option linter.unusedVariables false
set_option maxRecDepth 100000
set_option maxHeartbeats 4000000
theorem ne_nil_nil4 {prog : Program} {w : World} {A : Around} {E : Value → Shared → Prop} {s : Shared} {h₀ : Heap} {L : Addr} {news : List (Addr × Obj)} {Q : Value → Shared → Prop} {a b : Addr} {n1 n2 : Nat} (N : News h₀ L s.heap news) (ha : (a, W.listOf #[] n1) ∈ news) (hb : (b, W.listOf #[] n2) ∈ news) (hu : A.units + 64 < cLine) (h : Q (.bool false) s) : wpAny (model prog w) A (compareOp .NotEq (.ref a) (.ref b)) Q E s :=
  ne_ints_led (xs := []) (ys := []) N ha hb .nil .nil hu h
theorem ne_one_nil {prog : Program} {w : World} {A : Around} {E : Value → Shared → Prop} {s : Shared} {h₀ : Heap} {L : Addr} {news : List (Addr × Obj)} {Q : Value → Shared → Prop} {a b : Addr} {n1 n2 : Nat} {k : Int} {t : Tok} (N : News h₀ L s.heap news) (ha : (a, W.listOf #[.int k t] n1) ∈ news) (hb : (b, W.listOf #[] n2) ∈ news) (hu : A.units + 64 < cLine) (h : Q (.bool true) s) : wpAny (model prog w) A (compareOp .NotEq (.ref a) (.ref b)) Q E s :=
  ne_ints_led (xs := [.int k t]) (ys := []) (ns := [k]) N ha hb (.cons k t .nil) .nil hu (by rw [decide_eq_false (by simp)]; exact h)
noncomputable def metL (f : Nat → Bool) (i : Nat) : List Int := ((List.range i).filter f).map fun (k : Nat) => 0 + (k : Int)
theorem metL_yes {f : Nat → Bool} {i : Nat} (h : f i = true) : metL f (i + 1) = metL f i ++ [0 + (i : Int)] := by simp [metL, List.range_succ, h]
theorem metL_no {f : Nat → Bool} {i : Nat} (h : f i = false) : metL f (i + 1) = metL f i := by simp [metL, List.range_succ, h]
local macro_rules | `(tactic| walk_at "CompSrc") => `(tactic| walk_at "mine.1")
local macro_rules | `(tactic| walk_at "CompEnd") => `(tactic| walk_at "mine.1")
local macro_rules | `(tactic| walk_at "FinE") => `(tactic| walk_at "mine.1")
local macro_rules | `(tactic| walk_at "CompSrcT") => `(tactic| walk_at "mine.1")
theorem haltT4 {M : Model} {A : Around} {q1 : Pos} {e : PySem.Expr} {r : List Stmt} {env : Env} {Q : Flow → Shared → Prop} {E : Value → Shared → Prop} {s : Shared} (h : Halt (wpAny M A (execs (Stmt.Expr e q1 :: r) env) Q E s)) : wpAny M A (execs (Stmt.Expr e q1 :: r) env) Q E s := h
local macro_rules | `(tactic| walk_at "execs cons") => `(tactic| (with_reducible refine haltT4 ?_))
theorem turn4 {w : World} {p : Program} {loose : List PySem.Str} {mean : ExcName → Option Value} {mg mb : PySem.Str → Option Value} (dp un : Nat) (gd : Option (List Code)) (a : Addr) (ccd : Value) (outer : List Env) (A₀ : Around) (base h₀ : Heap) (L : Addr) (s : Shared) (c1 c2 c3 c4 c5 c6 c7 c8 c9 c10 : Obj) (m : PySem.Str → Option Value) (tail : List (Addr × Obj)) (D : Addr) (bs : List Bool) (i : Nat) (ti : Tok) (v5 : Option Value)
    (Q : Flow → Shared → Prop) (E : Value → Shared → Prop) (B : Below A₀ base outer h₀) (F : Fr h₀ L s.heap m) (X : (K w.params).In h₀) (N : News h₀ L s.heap ((D, W.listOf (bs.map Value.bool).toArray i) :: (L + 1 + 1 + 1 + 1 + 1 + 1 + 1 + 1 + 1 + 1, c1) :: (L + 1 + 1 + 1 + 1 + 1 + 1 + 1 + 1 + 1, c2) :: (L + 1 + 1 + 1 + 1 + 1 + 1 + 1 + 1, c3) :: (L + 1 + 1 + 1 + 1 + 1 + 1 + 1, c4) :: (L + 1 + 1 + 1 + 1 + 1 + 1, c5) :: (L + 1 + 1 + 1 + 1 + 1, c6) :: (L + 1 + 1 + 1 + 1, c7) :: (L + 1 + 1 + 1, c8) :: (L + 1 + 1, c9) :: (L + 1, c10) :: tail)) (T : Top p loose mean mg mb h₀) (hd : dp + 100 < recursionLimit) (hu : un + 400 < cLine)
    (hvturn : m (.ofString "turn") = some (.int (0 + (i : Int)) ti)) (d2 : c2.data = .cell (some (.ref D))) (d5 : c5.data = .cell v5) (hbl : bs.length = i) (hi24 : i < 24) (hg6 : ∀ q ∈ tail, q.1 ≠ L + 1 + 1 + 1 + 1 + 1 + 1) (hD : @Ne Nat (L + 1 + 1 + 1 + 1 + 1 + 1 + 1 + 1 + 1 + 1) D ∧ @Ne Nat (L + 1 + 1 + 1 + 1 + 1 + 1 + 1 + 1 + 1) D ∧ @Ne Nat (L + 1 + 1 + 1 + 1 + 1 + 1 + 1 + 1) D ∧ @Ne Nat (L + 1 + 1 + 1 + 1 + 1 + 1 + 1) D ∧ @Ne Nat (L + 1 + 1 + 1 + 1 + 1 + 1) D ∧ @Ne Nat (L + 1 + 1 + 1 + 1 + 1) D ∧ @Ne Nat (L + 1 + 1 + 1 + 1) D ∧ @Ne Nat (L + 1 + 1 + 1) D ∧ @Ne Nat (L + 1 + 1) D ∧ @Ne Nat (L + 1) D)
    (brk : ∀ (k0 : Nat) (D' : Addr) (t : Tok) (c5' : Obj) h' tk', metL (fun k => bs.getD k false) i = [0 + (k0 : Int)] → c5'.data = .cell (some (.ref D')) → (@Ne Nat (L + 1 + 1 + 1 + 1 + 1 + 1 + 1 + 1 + 1 + 1) D' ∧ @Ne Nat (L + 1 + 1 + 1 + 1 + 1 + 1 + 1 + 1 + 1) D' ∧ @Ne Nat (L + 1 + 1 + 1 + 1 + 1 + 1 + 1 + 1) D' ∧ @Ne Nat (L + 1 + 1 + 1 + 1 + 1 + 1 + 1) D' ∧ @Ne Nat (L + 1 + 1 + 1 + 1 + 1 + 1) D' ∧ @Ne Nat (L + 1 + 1 + 1 + 1 + 1) D' ∧ @Ne Nat (L + 1 + 1 + 1 + 1) D' ∧ @Ne Nat (L + 1 + 1 + 1) D' ∧ @Ne Nat (L + 1 + 1) D' ∧ @Ne Nat (L + 1) D') → (∀ q ∈ tail, @Ne Nat q.1 D') → Fr h₀ L h' m → News h₀ L h' ((D', W.listOf #[.int (0 + (k0 : Int)) t] 1) :: (D, W.listOf (bs.map Value.bool).toArray i) :: (L + 1 + 1 + 1 + 1 + 1 + 1 + 1 + 1 + 1 + 1, c1) :: (L + 1 + 1 + 1 + 1 + 1 + 1 + 1 + 1 + 1, c2) :: (L + 1 + 1 + 1 + 1 + 1 + 1 + 1 + 1, c3) :: (L + 1 + 1 + 1 + 1 + 1 + 1 + 1, c4) :: (L + 1 + 1 + 1 + 1 + 1 + 1, c5') :: (L + 1 + 1 + 1 + 1 + 1, c6) :: (L + 1 + 1 + 1 + 1, c7) :: (L + 1 + 1 + 1, c8) :: (L + 1 + 1, c9) :: (L + 1, c10) :: tail) → Q .brk { s with heap := h', toks := tk' })
    (hcase : metL (fun k => bs.getD k false) i = [] ∨ ∃ k0 : Nat, metL (fun k => bs.getD k false) i = [0 + (k0 : Int)])
    (cont : ∀ (c5' : Obj) (v5' : Option Value) h' tk', metL (fun k => bs.getD k false) i = [] → c5'.data = .cell v5' → Fr h₀ L h' m → News h₀ L h' ((L + 1 + 1 + 1 + 1 + 1 + 1 + 1 + 1 + 1 + 1, c1) :: (L + 1 + 1 + 1 + 1 + 1 + 1 + 1 + 1 + 1, c2) :: (L + 1 + 1 + 1 + 1 + 1 + 1 + 1 + 1, c3) :: (L + 1 + 1 + 1 + 1 + 1 + 1 + 1, c4) :: (L + 1 + 1 + 1 + 1 + 1 + 1, c5') :: (L + 1 + 1 + 1 + 1 + 1, c6) :: (L + 1 + 1 + 1 + 1, c7) :: (L + 1 + 1 + 1, c8) :: (L + 1 + 1, c9) :: (L + 1, c10) :: tail) → wpAny (model pw w) (ktrTop dp un gd (.ofString "law") lawScope L a ccd (cellsFrom (L + 1) lawScope.names []) outer) (execs (turnBody.drop 8) (envOfC (.ofString "law") lawScope L a ccd)) Q E { s with heap := h', toks := tk' }) :
    wpAny (model pw w) (ktrTop dp un gd (.ofString "law") lawScope L a ccd (cellsFrom (L + 1) lawScope.names []) outer) (execs (turnBody.drop 6) (envOfC (.ofString "law") lawScope L a ccd)) Q E s := by
  have hDc := hD
  have dc10 := hDc.1
  have dc9 := hDc.2.1
  have dc8 := hDc.2.2.1
  have dc7 := hDc.2.2.2.1
  have dc6 := hDc.2.2.2.2.1
  have dc5 := hDc.2.2.2.2.2.1
  have dc4 := hDc.2.2.2.2.2.2.1
  have dc3 := hDc.2.2.2.2.2.2.2.1
  have dc2 := hDc.2.2.2.2.2.2.2.2.1
  have dc1 := hDc.2.2.2.2.2.2.2.2.2
  clear hDc
  have hvs : ∀ p ∈ ([(.ofString "turn", .int (0 + (i : Int)) ti)] : List (PySem.Str × Value)), m p.1 = some p.2 := List.forall_mem_cons.mpr ⟨hvturn, List.forall_mem_nil _⟩
  have F := fr_over F hvs
  refine' law_in (A := fun sc => ktrTop dp un gd (.ofString "law") sc L a ccd (cellsFrom (L + 1) sc.names []) outer) (env := fun sc => envOfC (.ofString "law") sc L a ccd) ?hs ?hb ?_
  case hs => conv => lhs; whnf
  case hb => conv => lhs; whnf
  dsimp only
  (repeat' (first | (k_unfold; (try dsimp only)) | (k_end; wrow_close) | with_reducible ((with_reducible show wpAny _ _ (eval (PySem.Expr.ListComp _ _ _ _ ) _) _ _ _); k_dflt (refine LCt.ListComp_T (F₀ := by k_asm) (by with_unfolding_all rfl) (by decide) (by rfl) (by decide) (by rfl) ?_)) | with_reducible ((with_reducible show wpAny _ _ (subscriptTail _ _ (Value.ref _) (Value.int _ _)) _ _ _); (with_unfolding_all refine' list_atU ?N ?hm ?h0 ?hz ?hx ?_ ?k6 ?k7; (case N => k_asm); (case hm => k_mem); (case h0 => first | assumption | omega); (case hz => first | assumption | omega); (case hx => assumption); (case k6 => first | exact sub_binop | with_unfolding_all rfl); (case k7 => intro _; with_unfolding_all rfl); k_whole; intro uIq9)) | with_reducible ((with_reducible show wpAny _ _ (compareOp CmpOp.NotEq (Value.ref _) (Value.ref _)) _ _ _); first | k_dflt (refine' ne_nil_nil4 ?N ?ha ?hb ?hu ?_; (case N => k_asm); (case ha => k_mem); (case hb => k_mem); (case hu => ke_room)) | k_dflt (refine' ne_one_nil ?N ?ha ?hb ?hu ?_; (case N => k_asm); (case ha => k_mem); (case hb => k_mem); (case hu => ke_room))) | walk1 | (dsimp only; walk1) | (leave1; (try dsimp only)) | fail))
  unfold Halt
  rename Fr _ _ _ _ => F9
  rename News _ _ _ _ => N9
  rename IsRange _ _ _ _ _ _ _ _ => R9
  obtain ⟨base, hbase, N10⟩ := news_gen N9
  refine LCt.CompSrcT.range (n := ((0 + (i : Int)) - 0).toNat) (by rfl) F9 N10 R9 (small_one (by omega) (by omega) (by omega) (by omega)) (rangeSize_nat _ _) (by rw [sizeLine_eq]; omega) (fun g => ?_)
  refine restT_inv ((0 + (i : Int)) - 0).toNat (fun k zs nw => nw = base ∧ IntsAre zs (metL (fun k => bs.getD k false) k)) ?turn ?fin ((0 + (i : Int)) - 0).toNat 0 [] _ (by omega) ⟨rfl, .nil⟩
  case turn =>
    rintro k zs nw v I oI C oC D2 m₂ h tk E' hk ⟨hnw, hz⟩ ⟨t, rfl⟩ h3 h4 h5 h6 h7 h8
    rw [hnw] at h6 h7
    clear hnw
    have hko : k < bs.length := by omega
    have hx0 : (bs.map Value.bool).toArray[(0 + (k : Int)).toNat]? = some (.bool (bs.getD k false)) := by
      rw [show (0 + (k : Int)).toNat = k by omega, List.getElem?_toArray, List.getElem?_map, List.getD_eq_getElem?_getD, List.getElem?_eq_getElem hko]; rfl
    rw [hbase] at h6
    clear N10 N9 F9 R9
    cases hb : bs.getD k false
    · rw [hb] at hx0
      (repeat' (first | (k_unfold; (try dsimp only)) | (k_end; wrow_close) | with_reducible ((with_reducible show wpAny _ _ (eval (PySem.Expr.ListComp _ _ _ _ ) _) _ _ _); k_dflt (refine LCt.ListComp_T (F₀ := by k_asm) (by with_unfolding_all rfl) (by decide) (by rfl) (by decide) (by rfl) ?_)) | with_reducible ((with_reducible show wpAny _ _ (subscriptTail _ _ (Value.ref _) (Value.int _ _)) _ _ _); (with_unfolding_all refine' list_atU ?N ?hm ?h0 ?hz ?hx ?_ ?k6 ?k7; (case N => k_asm); (case hm => k_mem); (case h0 => first | assumption | omega); (case hz => first | assumption | omega); (case hx => assumption); (case k6 => first | exact sub_binop | with_unfolding_all rfl); (case k7 => intro _; with_unfolding_all rfl); k_whole; intro uIq9)) | with_reducible ((with_reducible show wpAny _ _ (compareOp CmpOp.NotEq (Value.ref _) (Value.ref _)) _ _ _); first | k_dflt (refine' ne_nil_nil4 ?N ?ha ?hb ?hu ?_; (case N => k_asm); (case ha => k_mem); (case hb => k_mem); (case hu => ke_room)) | k_dflt (refine' ne_one_nil ?N ?ha ?hb ?hu ?_; (case N => k_asm); (case ha => k_mem); (case hb => k_mem); (case hu => ke_room))) | walk1 | (dsimp only; walk1) | (leave1; (try dsimp only)) | fail))
      unfold Halt
      rename Fr _ _ _ _ => F7
      rename News _ _ _ _ => N7
      exact LCg.CompEnd.intro F7 N7 base (fun p hp => hbase ▸ hp) h7 trivial ⟨rfl, by rw [metL_no hb]; exact hz⟩
    · rw [hb] at hx0
      (repeat' (first | (k_unfold; (try dsimp only)) | (k_end; wrow_close) | with_reducible ((with_reducible show wpAny _ _ (eval (PySem.Expr.ListComp _ _ _ _ ) _) _ _ _); k_dflt (refine LCt.ListComp_T (F₀ := by k_asm) (by with_unfolding_all rfl) (by decide) (by rfl) (by decide) (by rfl) ?_)) | with_reducible ((with_reducible show wpAny _ _ (subscriptTail _ _ (Value.ref _) (Value.int _ _)) _ _ _); (with_unfolding_all refine' list_atU ?N ?hm ?h0 ?hz ?hx ?_ ?k6 ?k7; (case N => k_asm); (case hm => k_mem); (case h0 => first | assumption | omega); (case hz => first | assumption | omega); (case hx => assumption); (case k6 => first | exact sub_binop | with_unfolding_all rfl); (case k7 => intro _; with_unfolding_all rfl); k_whole; intro uIq9)) | with_reducible ((with_reducible show wpAny _ _ (compareOp CmpOp.NotEq (Value.ref _) (Value.ref _)) _ _ _); first | k_dflt (refine' ne_nil_nil4 ?N ?ha ?hb ?hu ?_; (case N => k_asm); (case ha => k_mem); (case hb => k_mem); (case hu => ke_room)) | k_dflt (refine' ne_one_nil ?N ?ha ?hb ?hu ?_; (case N => k_asm); (case ha => k_mem); (case hb => k_mem); (case hu => ke_room))) | walk1 | (dsimp only; walk1) | (leave1; (try dsimp only)) | fail))
      unfold Halt
      rename Fr _ _ _ _ => F7
      rename News _ _ _ _ => N7
      exact LCg.CompEnd.intro F7 N7 base (fun p hp => hbase ▸ hp) h7 trivial ⟨rfl, by rw [metL_yes hb]; exact ints_snoc hz⟩
  case fin =>
    rintro zs nw ⟨hnw, hz⟩
    intro D2 h tk F3 N3 O3
    rw [hnw, hbase] at N3 O3
    have hOa := off1_mem O3
    simp only [List.forall_mem_cons] at hOa
    have hOc := hOa
    have od := hOc.1
    replace hOc := hOc.2
    have oc10 := hOc.1
    have oc9 := hOc.2.1
    have oc8 := hOc.2.2.1
    have oc7 := hOc.2.2.2.1
    have oc6 := hOc.2.2.2.2.1
    have oc5 := hOc.2.2.2.2.2.1
    have oc4 := hOc.2.2.2.2.2.2.1
    have oc3 := hOc.2.2.2.2.2.2.2.1
    have oc2 := hOc.2.2.2.2.2.2.2.2.1
    have oc1 := hOc.2.2.2.2.2.2.2.2.2.1
    have ot := hOc.2.2.2.2.2.2.2.2.2.2
    clear hOc
    rw [show ((0 + (i : Int)) - 0).toNat = i by omega] at hz
    clear hnw N10 N9 F9 O3 R9
    rcases hcase with e | ⟨k0, e⟩
    · rw [e] at hz
      cases hz
      have N4 : News h₀ L h ((D2, W.listOf #[] 0) :: _) := N3
      clear N3
      dsimp only
      (repeat' (first | (k_unfold; (try dsimp only)) | (k_end; wrow_close) | with_reducible ((with_reducible show wpAny _ _ (eval (PySem.Expr.ListComp _ _ _ _ ) _) _ _ _); k_dflt (refine LCt.ListComp_T (F₀ := by k_asm) (by with_unfolding_all rfl) (by decide) (by rfl) (by decide) (by rfl) ?_)) | with_reducible ((with_reducible show wpAny _ _ (subscriptTail _ _ (Value.ref _) (Value.int _ _)) _ _ _); (with_unfolding_all refine' list_atU ?N ?hm ?h0 ?hz ?hx ?_ ?k6 ?k7; (case N => k_asm); (case hm => k_mem); (case h0 => first | assumption | omega); (case hz => first | assumption | omega); (case hx => assumption); (case k6 => first | exact sub_binop | with_unfolding_all rfl); (case k7 => intro _; with_unfolding_all rfl); k_whole; intro uIq9)) | with_reducible ((with_reducible show wpAny _ _ (compareOp CmpOp.NotEq (Value.ref _) (Value.ref _)) _ _ _); first | k_dflt (refine' ne_nil_nil4 ?N ?ha ?hb ?hu ?_; (case N => k_asm); (case ha => k_mem); (case hb => k_mem); (case hu => ke_room)) | k_dflt (refine' ne_one_nil ?N ?ha ?hb ?hu ?_; (case N => k_asm); (case ha => k_mem); (case hb => k_mem); (case hu => ke_room))) | walk1 | (dsimp only; walk1) | (leave1; (try dsimp only)) | fail))
      unfold Halt
      rename Fr _ _ _ _ => F7
      rename News _ _ _ _ => N7
      exact cont _ _ _ _ e (by assumption) (fr_base hvs F7) (fun p hp => N7 p (by repeat (first | exact hp | apply List.mem_cons_of_mem)))
    · rw [e] at hz
      cases hz with
      | cons _ t r =>
      cases r
      have N4 : News h₀ L h ((D2, W.listOf #[.int (0 + (k0 : Int)) t] 1) :: _) := N3
      clear N3
      dsimp only
      (repeat' (first | (k_unfold; (try dsimp only)) | (k_end; wrow_close) | with_reducible ((with_reducible show wpAny _ _ (eval (PySem.Expr.ListComp _ _ _ _ ) _) _ _ _); k_dflt (refine LCt.ListComp_T (F₀ := by k_asm) (by with_unfolding_all rfl) (by decide) (by rfl) (by decide) (by rfl) ?_)) | with_reducible ((with_reducible show wpAny _ _ (subscriptTail _ _ (Value.ref _) (Value.int _ _)) _ _ _); (with_unfolding_all refine' list_atU ?N ?hm ?h0 ?hz ?hx ?_ ?k6 ?k7; (case N => k_asm); (case hm => k_mem); (case h0 => first | assumption | omega); (case hz => first | assumption | omega); (case hx => assumption); (case k6 => first | exact sub_binop | with_unfolding_all rfl); (case k7 => intro _; with_unfolding_all rfl); k_whole; intro uIq9)) | with_reducible ((with_reducible show wpAny _ _ (compareOp CmpOp.NotEq (Value.ref _) (Value.ref _)) _ _ _); first | k_dflt (refine' ne_nil_nil4 ?N ?ha ?hb ?hu ?_; (case N => k_asm); (case ha => k_mem); (case hb => k_mem); (case hu => ke_room)) | k_dflt (refine' ne_one_nil ?N ?ha ?hb ?hu ?_; (case N => k_asm); (case ha => k_mem); (case hb => k_mem); (case hu => ke_room))) | walk1 | (dsimp only; walk1) | (leave1; (try dsimp only)) | fail))
      rename Fr _ _ _ _ => F7
      rename News _ _ _ _ => N7
      exact brk k0 D2 t _ _ _ e (by assumption) ⟨hOa.2.1, hOa.2.2.1, hOa.2.2.2.1, hOa.2.2.2.2.1, hOa.2.2.2.2.2.1, hOa.2.2.2.2.2.2.1, hOa.2.2.2.2.2.2.2.1, hOa.2.2.2.2.2.2.2.2.1, hOa.2.2.2.2.2.2.2.2.2.1, hOa.2.2.2.2.2.2.2.2.2.2.1⟩ hOa.2.2.2.2.2.2.2.2.2.2.2 (fr_base hvs F7) (fun p hp => N7 p (by repeat (first | exact hp | apply List.mem_cons_of_mem)))
end
section
set_option linter.unusedVariables false
set_option maxRecDepth 100000
set_option maxHeartbeats 4000000
theorem col_fdiv {t n : Int} : (4 * (t + n) + 3).fdiv 4 = t + n := by
  rw [Int.fdiv_eq_ediv_of_nonneg _ (by decide)]; omega
theorem haltT5 {M : Model} {A : Around} {q1 : Pos} {q2 : Pos} {e : PySem.Expr} {r : List Stmt} {env : Env} {Q : Flow → Shared → Prop} {E : Value → Shared → Prop} {s : Shared} (h : Halt (wpAny M A (execs (Stmt.Assign [PySem.Expr.Name (PySem.Str.ofString "left") q1] e q2 :: r) env) Q E s)) : wpAny M A (execs (Stmt.Assign [PySem.Expr.Name (PySem.Str.ofString "left") q1] e q2 :: r) env) Q E s := h
local macro_rules | `(tactic| walk_at "execs cons") => `(tactic| (with_reducible refine haltT5 ?_))
theorem halt252b {M : Model} {A : Around} {args : List Value} {Q E : Value → Shared → Prop} {s : Shared} (h : Halt (wpAny M A (call (.ref 252) args) Q E s)) : wpAny M A (call (.ref 252) args) Q E s := h
theorem halt108 {M : Model} {A : Around} {args : List Value} {Q E : Value → Shared → Prop} {s : Shared} (h : Halt (wpAny M A (call (.ref 108) args) Q E s)) : wpAny M A (call (.ref 108) args) Q E s := h
theorem halt115 {M : Model} {A : Around} {args : List Value} {Q E : Value → Shared → Prop} {s : Shared} (h : Halt (wpAny M A (call (.ref 115) args) Q E s)) : wpAny M A (call (.ref 115) args) Q E s := h
local macro_rules | `(tactic| walk_at "call ref") => `(tactic| (k_here; refine halt252b ?_))
local macro_rules | `(tactic| walk_at "call ref") => `(tactic| (k_here; refine halt108 ?_))
local macro_rules | `(tactic| walk_at "call ref") => `(tactic| (k_here; refine halt115 ?_))
theorem turn5 {w : World} {p : Program} {loose : List PySem.Str} {mean : ExcName → Option Value} {mg mb : PySem.Str → Option Value} (dp un : Nat) (gd : Option (List Code)) (a : Addr) (ccd : Value) (outer : List Env) (A₀ : Around) (base h₀ : Heap) (L : Addr) (s : Shared) (c1 c2 c3 c4 c5 c6 c7 c8 c9 c10 : Obj) (m : PySem.Str → Option Value) (tail : List (Addr × Obj)) (Dl Ds Dd Dh : Addr) (lv sv vd vh : List Value) (nl ns nd : Nat) (ds hs : List Int) (i : Nat) (ti tt : Tok) (o : Ws) (total : Int)
    (Q : Flow → Shared → Prop) (E : Value → Shared → Prop) (B : Below A₀ base outer h₀) (F : Fr h₀ L s.heap m) (X : (K w.params).In h₀) (N : News h₀ L s.heap ((Dl, W.listOf lv.toArray nl) :: (Ds, W.listOf sv.toArray ns) :: (Dd, W.listOf vd.toArray nd) :: (Dh, W.listOf vh.toArray 4) :: (L + 1 + 1 + 1 + 1 + 1 + 1 + 1 + 1 + 1 + 1, c1) :: (L + 1 + 1 + 1 + 1 + 1 + 1 + 1 + 1 + 1, c2) :: (L + 1 + 1 + 1 + 1 + 1 + 1 + 1 + 1, c3) :: (L + 1 + 1 + 1 + 1 + 1 + 1 + 1, c4) :: (L + 1 + 1 + 1 + 1 + 1 + 1, c5) :: (L + 1 + 1 + 1 + 1 + 1, c6) :: (L + 1 + 1 + 1 + 1, c7) :: (L + 1 + 1 + 1, c8) :: (L + 1 + 1, c9) :: (L + 1, c10) :: (wsLed w.params o ++ tail))) (T : Top p loose mean mg mb h₀) (hd : dp + 100 < recursionLimit) (hu : un + 400 < cLine)
    (hvdue : m (.ofString "due") = some (.ref Dd)) (hvstates : m (.ofString "states") = some (.ref Ds)) (hvturn : m (.ofString "turn") = some (.int (0 + (i : Int)) ti)) (d6 : c6.data = .cell (some (.ref Dl))) (d4 : c4.data = .cell (some (.ref o.I))) (d8 : c8.data = .cell (some (.int total tt))) (d10 : c10.data = .cell (some (.ref Dh)))
    (hlv : lv.length = i) (hsv : sv.length = i) (hi24 : i < 24) (hvd : IntsAre vd ds) (hvh : IntsAre vh hs) (hhs : hs.length = 4) (hio : IntsAre o.its o.cs) (hcl : o.cs.length ≤ 300) (hcol : lvl o.cs o.b o.nt = 4 * (total + ds.length) + 3) (hd1 : 1 ≤ ds.length) (hd8 : ds.length ≤ 8) (ht1 : 1 ≤ total) (ht8 : total ≤ 8)
    (hDl : @LT.lt Nat _ (L + 1 + 1 + 1 + 1 + 1 + 1 + 1 + 1 + 1 + 1) Dl) (hDs : @LT.lt Nat _ Dl Ds) (hDh : @LT.lt Nat _ Dh Dl) (hDd : @Ne Nat Dd Dl ∧ @Ne Nat Dd Ds) (ho : @LT.lt Nat _ Ds o.P ∧ @LT.lt Nat _ Ds o.T ∧ @LT.lt Nat _ Ds o.I ∧ @LT.lt Nat _ Ds o.d) (htl1 : ∀ q ∈ tail, q.1 ≠ Dl) (htl2 : ∀ q ∈ tail, q.1 ≠ Ds)
    (cont : ∀ (T : Addr) (y nm : PySem.Str) (u1 u2 tc : Tok) h' tk', 0 < tk' → nm ∈ names7 → y = pileT (ds.length : Int) nm → (∀ q ∈ (Dl, W.listOf (lv ++ [Value.ref o.I]).toArray (nl + 1)) :: (Ds, W.listOf (sv ++ [Value.ref Dd]).toArray (ns + 1)) :: (Dd, W.listOf vd.toArray nd) :: (Dh, W.listOf vh.toArray 4) :: (L + 1 + 1 + 1 + 1 + 1 + 1 + 1 + 1 + 1 + 1, c1) :: (L + 1 + 1 + 1 + 1 + 1 + 1 + 1 + 1 + 1, c2) :: (L + 1 + 1 + 1 + 1 + 1 + 1 + 1 + 1, c3) :: (L + 1 + 1 + 1 + 1 + 1 + 1 + 1, c4) :: (L + 1 + 1 + 1 + 1 + 1 + 1, c5) :: (L + 1 + 1 + 1 + 1 + 1, c6) :: (L + 1 + 1 + 1 + 1, c7) :: (L + 1 + 1 + 1, c8) :: (L + 1 + 1, c9) :: (L + 1, c10) :: (wsLed w.params o ++ tail), @LT.lt Nat _ q.1 T) → Fr h₀ L h' (upd (upd m (.ofString "column") (.int (lvl o.cs o.b o.nt) tc)) (.ofString "new") (.ref T)) → News h₀ L h' ((T, { cls := .type "tuple", data := .seq #[.str y u1, .str y u2] }) :: (Dl, W.listOf (lv ++ [Value.ref o.I]).toArray (nl + 1)) :: (Ds, W.listOf (sv ++ [Value.ref Dd]).toArray (ns + 1)) :: (Dd, W.listOf vd.toArray nd) :: (Dh, W.listOf vh.toArray 4) :: (L + 1 + 1 + 1 + 1 + 1 + 1 + 1 + 1 + 1 + 1, c1) :: (L + 1 + 1 + 1 + 1 + 1 + 1 + 1 + 1 + 1, c2) :: (L + 1 + 1 + 1 + 1 + 1 + 1 + 1 + 1, c3) :: (L + 1 + 1 + 1 + 1 + 1 + 1 + 1, c4) :: (L + 1 + 1 + 1 + 1 + 1 + 1, c5) :: (L + 1 + 1 + 1 + 1 + 1, c6) :: (L + 1 + 1 + 1 + 1, c7) :: (L + 1 + 1 + 1, c8) :: (L + 1 + 1, c9) :: (L + 1, c10) :: (wsLed w.params o ++ tail)) → wpAny (model pw w) (ktrTop dp un gd (.ofString "law") lawScope L a ccd (cellsFrom (L + 1) lawScope.names []) outer) (execs (turnBody.drop 13) (envOfC (.ofString "law") lawScope L a ccd)) Q E { s with heap := h', toks := tk' }) :
    wpAny (model pw w) (ktrTop dp un gd (.ofString "law") lawScope L a ccd (cellsFrom (L + 1) lawScope.names []) outer) (execs (turnBody.drop 8) (envOfC (.ofString "law") lawScope L a ccd)) Q E s := by
  simp only [wsLed, List.cons_append, List.nil_append] at N
  have gDs2 : @LT.lt Nat _ (L + 1 + 1 + 1 + 1 + 1 + 1 + 1 + 1 + 1 + 1) Ds := Nat.lt_trans hDl hDs
  have hvs : ∀ p ∈ ([(.ofString "due", .ref Dd), (.ofString "states", .ref Ds), (.ofString "turn", .int (0 + (i : Int)) ti)] : List (PySem.Str × Value)), m p.1 = some p.2 := List.forall_mem_cons.mpr ⟨hvdue, List.forall_mem_cons.mpr ⟨hvstates, List.forall_mem_cons.mpr ⟨hvturn, List.forall_mem_nil _⟩⟩⟩
  have F := fr_over F hvs
  refine' law_in (A := fun sc => ktrTop dp un gd (.ofString "law") sc L a ccd (cellsFrom (L + 1) sc.names []) outer) (env := fun sc => envOfC (.ofString "law") sc L a ccd) ?hs ?hb ?_
  case hs => conv => lhs; whnf
  case hb => conv => lhs; whnf
  dsimp only
  (repeat' (first | (k_unfold; (try dsimp only)) | (k_end; wrow_close) | with_reducible ((with_reducible show wpAny _ _ (call (Value.ref _) _) _ _ _); k_dflt (refine' con_indent _ _ _ _ _ _ _ _ _ _ _ _ _ _ _ _ _ _ _ _ ?kB ?kF ?kX ?kN ?kT ?kk ?kd ?ku ?e1 ?e2 ?e3 ?_; (case kB => k_asm); (case kF => k_asm); (case kX => k_asm); (case kN => k_asm); (case kT => k_asm); (case kk => first | assumption | rfl); (case kd => ktr_room); (case ku => ke_room); (case e1 => exact ws_mem (by k_mem) (by k_mem) (by k_mem) (by k_mem)); (case e2 => assumption); (case e3 => assumption)); intro hq9 tkq9 tq9 Fq9 Nq9; (try k_sweep)) | with_reducible ((with_reducible show wpAny _ _ (call (Value.builtin _) [Value.ref _, _]) _ _ _); k_dflt (refine' append_K ?k1 ?k2 ?k3 ?_ ?z; (case k1 => k_asm); (case k2 => k_asm); (case k3 => k_upd); (case z => (rw [List.size_toArray, sizeLine_eq]; omega)); k_whole); intro hq9 Fq9 Nq9; (try k_sweep)) | with_reducible ((with_reducible show wpAny _ _ (subscriptTail _ _ (Value.ref _) (Value.int _ _)) _ _ _); (with_unfolding_all refine' list_int ?N ?hm ?hi ?h0 ?h1 ?hz ?_ ?k6 ?k7; (case N => k_asm); (case hm => k_mem); (case hi => assumption); (case h0 => first | assumption | omega); (case h1 => first | assumption | omega); (case hz => first | assumption | omega); (case k6 => with_unfolding_all rfl); (case k7 => intro _; with_unfolding_all rfl); k_whole; intro tIq9)) | walk1 | (dsimp only; walk1) | (leave1; (try dsimp only)) | fail))
  all_goals first | exact absurd hcol (by assumption) | skip
  unfold Halt
  refine' con_floordiv _ _ _ _ _ _ _ _ _ _ _ _ _ _ _ _ _ _ _ _ _ ?kB ?kF ?kX ?kN ?kT ?kk ?kd ?ku  ?_
  case kB => k_asm
  case kF => k_asm
  case kX => k_asm
  case kN => k_asm
  case kT => k_asm
  case kk => rfl
  case kd => ktr_room
  case ku => ke_room
  intro t1 h1 tk1 F1 N1
  rw [hcol, col_fdiv]
  (repeat' (first | (k_unfold; (try dsimp only)) | (k_end; wrow_close) | with_reducible ((with_reducible show wpAny _ _ (call (Value.ref _) _) _ _ _); k_dflt (refine' con_indent _ _ _ _ _ _ _ _ _ _ _ _ _ _ _ _ _ _ _ _ ?kB ?kF ?kX ?kN ?kT ?kk ?kd ?ku ?e1 ?e2 ?e3 ?_; (case kB => k_asm); (case kF => k_asm); (case kX => k_asm); (case kN => k_asm); (case kT => k_asm); (case kk => first | assumption | rfl); (case kd => ktr_room); (case ku => ke_room); (case e1 => exact ws_mem (by k_mem) (by k_mem) (by k_mem) (by k_mem)); (case e2 => assumption); (case e3 => assumption)); intro hq9 tkq9 tq9 Fq9 Nq9; (try k_sweep)) | with_reducible ((with_reducible show wpAny _ _ (call (Value.builtin _) [Value.ref _, _]) _ _ _); k_dflt (refine' append_K ?k1 ?k2 ?k3 ?_ ?z; (case k1 => k_asm); (case k2 => k_asm); (case k3 => k_upd); (case z => (rw [List.size_toArray, sizeLine_eq]; omega)); k_whole); intro hq9 Fq9 Nq9; (try k_sweep)) | with_reducible ((with_reducible show wpAny _ _ (subscriptTail _ _ (Value.ref _) (Value.int _ _)) _ _ _); (with_unfolding_all refine' list_int ?N ?hm ?hi ?h0 ?h1 ?hz ?_ ?k6 ?k7; (case N => k_asm); (case hm => k_mem); (case hi => assumption); (case h0 => first | assumption | omega); (case h1 => first | assumption | omega); (case hz => first | assumption | omega); (case k6 => with_unfolding_all rfl); (case k7 => intro _; with_unfolding_all rfl); k_whole; intro tIq9)) | walk1 | (dsimp only; walk1) | (leave1; (try dsimp only)) | fail))
  unfold Halt
  refine' con_isub _ _ _ _ _ _ _ _ _ _ _ _ _ _ _ _ _ _ _ _ _ _ ?kB ?kF ?kX ?kN ?kT ?kk ?kd ?ku  ?_
  case kB => k_asm
  case kF => k_asm
  case kX => k_asm
  case kN => k_asm
  case kT => k_asm
  case kk => rfl
  case kd => ktr_room
  case ku => ke_room
  intro t2 h2 tk2 F2 N2
  rw [show total + (ds.length : Int) - total = ds.length by omega]
  (repeat' (first | (k_unfold; (try dsimp only)) | (k_end; wrow_close) | with_reducible ((with_reducible show wpAny _ _ (call (Value.ref _) _) _ _ _); k_dflt (refine' con_indent _ _ _ _ _ _ _ _ _ _ _ _ _ _ _ _ _ _ _ _ ?kB ?kF ?kX ?kN ?kT ?kk ?kd ?ku ?e1 ?e2 ?e3 ?_; (case kB => k_asm); (case kF => k_asm); (case kX => k_asm); (case kN => k_asm); (case kT => k_asm); (case kk => first | assumption | rfl); (case kd => ktr_room); (case ku => ke_room); (case e1 => exact ws_mem (by k_mem) (by k_mem) (by k_mem) (by k_mem)); (case e2 => assumption); (case e3 => assumption)); intro hq9 tkq9 tq9 Fq9 Nq9; (try k_sweep)) | with_reducible ((with_reducible show wpAny _ _ (call (Value.builtin _) [Value.ref _, _]) _ _ _); k_dflt (refine' append_K ?k1 ?k2 ?k3 ?_ ?z; (case k1 => k_asm); (case k2 => k_asm); (case k3 => k_upd); (case z => (rw [List.size_toArray, sizeLine_eq]; omega)); k_whole); intro hq9 Fq9 Nq9; (try k_sweep)) | with_reducible ((with_reducible show wpAny _ _ (subscriptTail _ _ (Value.ref _) (Value.int _ _)) _ _ _); (with_unfolding_all refine' list_int ?N ?hm ?hi ?h0 ?h1 ?hz ?_ ?k6 ?k7; (case N => k_asm); (case hm => k_mem); (case hi => assumption); (case h0 => first | assumption | omega); (case h1 => first | assumption | omega); (case hz => first | assumption | omega); (case k6 => with_unfolding_all rfl); (case k7 => intro _; with_unfolding_all rfl); k_whole; intro tIq9)) | walk1 | (dsimp only; walk1) | (leave1; (try dsimp only)) | fail))
  unfold Halt
  refine wpAny_with_toks (n := 1) (by first | assumption | omega | (dsimp only; omega)) ?_
  refine' con_pile _ _ _ _ _ _ _ _ _ _ _ _ _ _ _ _ _ _ _ _ _ _ ?kB ?kF ?kX ?kN ?kT ?kk ?kd ?ku ?e1 ?e2 ?e3 ?e4 ?_
  case kB => k_asm
  case kF => k_asm
  case kX => k_asm
  case kN => k_asm
  case kT => k_asm
  case kk => rfl
  case kd => ktr_room
  case ku => ke_room
  case e1 => omega
  case e2 => omega
  case e3 => ktr_room
  case e4 => first | omega | (dsimp only [ktrTop]; omega)
  intro T9 y9 nm9 u1 u2 h9 tk9 hnm9 hy9 hlt9 F' N' htk9
  dsimp only at htk9
  (repeat' (first | (k_unfold; (try dsimp only)) | (k_end; wrow_close) | with_reducible ((with_reducible show wpAny _ _ (call (Value.ref _) _) _ _ _); k_dflt (refine' con_indent _ _ _ _ _ _ _ _ _ _ _ _ _ _ _ _ _ _ _ _ ?kB ?kF ?kX ?kN ?kT ?kk ?kd ?ku ?e1 ?e2 ?e3 ?_; (case kB => k_asm); (case kF => k_asm); (case kX => k_asm); (case kN => k_asm); (case kT => k_asm); (case kk => first | assumption | rfl); (case kd => ktr_room); (case ku => ke_room); (case e1 => exact ws_mem (by k_mem) (by k_mem) (by k_mem) (by k_mem)); (case e2 => assumption); (case e3 => assumption)); intro hq9 tkq9 tq9 Fq9 Nq9; (try k_sweep)) | with_reducible ((with_reducible show wpAny _ _ (call (Value.builtin _) [Value.ref _, _]) _ _ _); k_dflt (refine' append_K ?k1 ?k2 ?k3 ?_ ?z; (case k1 => k_asm); (case k2 => k_asm); (case k3 => k_upd); (case z => (rw [List.size_toArray, sizeLine_eq]; omega)); k_whole); intro hq9 Fq9 Nq9; (try k_sweep)) | with_reducible ((with_reducible show wpAny _ _ (subscriptTail _ _ (Value.ref _) (Value.int _ _)) _ _ _); (with_unfolding_all refine' list_int ?N ?hm ?hi ?h0 ?h1 ?hz ?_ ?k6 ?k7; (case N => k_asm); (case hm => k_mem); (case hi => assumption); (case h0 => first | assumption | omega); (case h1 => first | assumption | omega); (case hz => first | assumption | omega); (case k6 => with_unfolding_all rfl); (case k7 => intro _; with_unfolding_all rfl); k_whole; intro tIq9)) | walk1 | (dsimp only; walk1) | (leave1; (try dsimp only)) | fail))
  unfold Halt
  rename Fr _ _ _ _ => F9
  rename News _ _ _ _ => N9
  rw [ovr_same hvs] at F9
  exact cont T9 y9 nm9 u1 u2 _ _ _ (by first | assumption | omega | (dsimp only; omega)) hnm9 hy9 hlt9 F9 N9
end
section
set_option linter.unusedVariables false
set_option maxRecDepth 100000
set_option maxHeartbeats 4000000
noncomputable def LeftI (sz : List Int) (i : Nat) (ys : List Value) : Prop := ∃ ls, StrsAre ys ls ∧ PilesAre ls (restS (sz.take i)) ∧ ys.length ≤ i
local macro_rules | `(tactic| walk_at "subscriptTail Name Name ref int") => `(tactic| walk_at "mine.4")
local macro_rules | `(tactic| walk_at "subscriptTail Name Name ref int") => `(tactic| (k_here; (with_reducible show wpAny _ _ (subscriptTail _ _ (Value.ref _) (Value.int _ _)) _ _ _); (with_unfolding_all refine' list_atU ?N ?hm ?h0 ?hz ?hx ?_ ?k6 ?k7; (case N => k_asm); (case hm => k_mem); (case h0 => first | assumption | omega); (case hz => first | assumption | omega); (case hx => assumption); (case k6 => first | exact sub_binop | with_unfolding_all rfl); (case k7 => intro _; with_unfolding_all rfl); k_whole; intro uI)))
local macro_rules | `(tactic| walk_at "SrcKA") => `(tactic| walk_at "mine.1")
local macro_rules | `(tactic| walk_at "KSt") => `(tactic| walk_at "mine.1")
theorem haltT6 {M : Model} {A : Around} {q1 : Pos} {q2 : Pos} {e : PySem.Expr} {r : List Stmt} {env : Env} {Q : Flow → Shared → Prop} {E : Value → Shared → Prop} {s : Shared} (h : Halt (wpAny M A (execs (Stmt.Assign [PySem.Expr.Name (PySem.Str.ofString "piles") q1] e q2 :: r) env) Q E s)) : wpAny M A (execs (Stmt.Assign [PySem.Expr.Name (PySem.Str.ofString "piles") q1] e q2 :: r) env) Q E s := h
local macro_rules | `(tactic| walk_at "execs cons") => `(tactic| (with_reducible refine haltT6 ?_))
local macro_rules | `(tactic| walk_at "call builtin:str.replace") => `(tactic| (k_here; refine rep_any (by first | assumption | omega) (by assumption) (by assumption) (by decide) (by decide) ?_; intro _ _))
theorem turn6 {w : World} {p : Program} {loose : List PySem.Str} {mean : ExcName → Option Value} {mg mb : PySem.Str → Option Value} (dp un : Nat) (gd : Option (List Code)) (a : Addr) (ccd : Value) (outer : List Env) (A₀ : Around) (base h₀ : Heap) (L : Addr) (s : Shared) (c1 c2 c3 c4 c5 c6 c7 c8 c9 c10 : Obj) (m : PySem.Str → Option Value) (tail : List (Addr × Obj)) (Dp Dz : Addr) (vp zs : List Value) (np : Nat) (xs : List PySem.Str) (sz : List Int)
    (Q : Flow → Shared → Prop) (E : Value → Shared → Prop) (B : Below A₀ base outer h₀) (F : Fr h₀ L s.heap m) (X : (K w.params).In h₀) (N : News h₀ L s.heap ((Dp, W.listOf vp.toArray np) :: (Dz, W.listOf zs.toArray zs.length) :: (L + 1 + 1 + 1 + 1 + 1 + 1 + 1 + 1 + 1 + 1, c1) :: (L + 1 + 1 + 1 + 1 + 1 + 1 + 1 + 1 + 1, c2) :: (L + 1 + 1 + 1 + 1 + 1 + 1 + 1 + 1, c3) :: (L + 1 + 1 + 1 + 1 + 1 + 1 + 1, c4) :: (L + 1 + 1 + 1 + 1 + 1 + 1, c5) :: (L + 1 + 1 + 1 + 1 + 1, c6) :: (L + 1 + 1 + 1 + 1, c7) :: (L + 1 + 1 + 1, c8) :: (L + 1 + 1, c9) :: (L + 1, c10) :: tail)) (T : Top p loose mean mg mb h₀) (hd : dp + 100 < recursionLimit) (hu : un + 400 < cLine)
    (d7 : c7.data = .cell (some (.ref Dp))) (d3 : c3.data = .cell (some (.ref Dz))) (hvp : StrsAre vp xs) (hxs : PilesAre xs sz) (hsz : ∀ s ∈ sz, 1 ≤ s ∧ s ≤ 8) (hl8 : sz.length ≤ 8) (hzs : IntsAre zs sz) (ht : 0 < s.toks)
    (cont : ∀ (D : Addr) (ys : List Value) (ls : List PySem.Str) h' tk', StrsAre ys ls → PilesAre ls (restS sz) → ys.length ≤ 8 → (∀ q ∈ (Dp, W.listOf vp.toArray np) :: (Dz, W.listOf zs.toArray zs.length) :: (L + 1 + 1 + 1 + 1 + 1 + 1 + 1 + 1 + 1 + 1, c1) :: (L + 1 + 1 + 1 + 1 + 1 + 1 + 1 + 1 + 1, c2) :: (L + 1 + 1 + 1 + 1 + 1 + 1 + 1 + 1, c3) :: (L + 1 + 1 + 1 + 1 + 1 + 1 + 1, c4) :: (L + 1 + 1 + 1 + 1 + 1 + 1, c5) :: (L + 1 + 1 + 1 + 1 + 1, c6) :: (L + 1 + 1 + 1 + 1, c7) :: (L + 1 + 1 + 1, c8) :: (L + 1 + 1, c9) :: (L + 1, c10) :: tail, @Ne Nat q.1 D) → Fr h₀ L h' (upd m (.ofString "left") (.ref D)) → News h₀ L h' ((D, W.listOf ys.toArray ys.length) :: (Dp, W.listOf vp.toArray np) :: (Dz, W.listOf zs.toArray zs.length) :: (L + 1 + 1 + 1 + 1 + 1 + 1 + 1 + 1 + 1 + 1, c1) :: (L + 1 + 1 + 1 + 1 + 1 + 1 + 1 + 1 + 1, c2) :: (L + 1 + 1 + 1 + 1 + 1 + 1 + 1 + 1, c3) :: (L + 1 + 1 + 1 + 1 + 1 + 1 + 1, c4) :: (L + 1 + 1 + 1 + 1 + 1 + 1, c5) :: (L + 1 + 1 + 1 + 1 + 1, c6) :: (L + 1 + 1 + 1 + 1, c7) :: (L + 1 + 1 + 1, c8) :: (L + 1 + 1, c9) :: (L + 1, c10) :: tail) → wpAny (model pw w) (ktrTop dp un gd (.ofString "law") lawScope L a ccd (cellsFrom (L + 1) lawScope.names []) outer) (execs (turnBody.drop 14) (envOfC (.ofString "law") lawScope L a ccd)) Q E { s with heap := h', toks := tk' }) :
    wpAny (model pw w) (ktrTop dp un gd (.ofString "law") lawScope L a ccd (cellsFrom (L + 1) lawScope.names []) outer) (execs (turnBody.drop 13) (envOfC (.ofString "law") lawScope L a ccd)) Q E s := by
  have hpl := hxs.length
  have hvl := hvp.length
  have hzl := hzs.length
  refine' law_in (A := fun sc => ktrTop dp un gd (.ofString "law") sc L a ccd (cellsFrom (L + 1) sc.names []) outer) (env := fun sc => envOfC (.ofString "law") sc L a ccd) ?hs ?hb ?_
  case hs => conv => lhs; whnf
  case hb => conv => lhs; whnf
  dsimp only
  (repeat' (first | (k_unfold; (try dsimp only)) | (k_end; wrow_close) | with_reducible ((with_reducible show wpAny _ _ (call _ _) _ _ _); (rename Fr _ _ _ _ => Fq9); (rename News _ _ _ _ => Nq9); (with_unfolding_all refine range1_toks (by first | assumption | omega | (dsimp only; omega)) Fq9 Nq9 ?_); intro hq9 tkq9 t₁q9 u₁q9 v₁q9 htkRq9 Rq9 FRq9 NRq9) | with_reducible ((with_reducible show wpAny _ _ (exec (PySem.Stmt.Assign _ _ _) _) _ _ _); k_dflt (refine Assign_ListComp_K (F₀ := by k_asm) (by rfl) (by with_unfolding_all rfl) (by with_unfolding_all rfl) (by decide) (by rfl) (by decide) (by rfl) (by rfl) (by rfl) ?_)) | walk1 | (dsimp only; walk1) | (leave1; (try dsimp only)) | fail))
  unfold Halt
  rename Fr _ _ _ _ => F9
  rename News _ _ _ _ => N9
  rename IsRange _ _ _ _ _ _ _ _ => R9
  obtain ⟨base, hbase, N10⟩ := news_gen N9
  rename StrsAre _ _ => hvp
  refine ⟨_, base, LeftI sz, xs.length, _, rfl, by rfl, F9, N10, by rw [sizeLine_eq]; omega, ?ht, ?hl, ⟨[], .nil, .nil, Nat.le_refl _⟩, ⟨_, _, _, R9, small_one (by omega) (by omega) (by omega) (by omega), rfl⟩, fun g => ?_, ?_⟩
  case ht => first | assumption | (dsimp only; omega)
  case hl => rintro i ys ⟨_, _, _, h⟩; exact h
  · intro k ys v I oI C oC D m₂ h tk E' hk hv htk hinv h3 h4 F5 N5 h7
    obtain ⟨t, rfl⟩ := hv
    obtain ⟨ls, hS, hP, hlen⟩ := hinv
    have hko : k < xs.length := by omega
    obtain ⟨x9, hx9⟩ : ∃ q, xs[k]? = some q := ⟨xs[k], List.getElem?_eq_getElem hko⟩
    obtain ⟨s9, nm9, hs9, hn9, e9⟩ := piles_at hxs hx9
    have hb9 := hsz s9 (List.mem_of_getElem? hs9)
    obtain ⟨_, _, hr9⟩ := pile_of hb9.1 hb9.2 hn9
    obtain ⟨t9, hv9⟩ := StrsAre.at hvp hx9
    have hx : vp.toArray[(0 + (k : Int)).toNat]? = some (.str x9 t9) := by
      rw [show (0 + (k : Int)).toNat = k by omega, List.getElem?_toArray]; exact hv9
    have hgx : xs.getD (0 + (k : Int)).toNat Str.empty = x9 := by
      rw [show (0 + (k : Int)).toNat = k by omega, List.getD_eq_getElem?_getD, hx9]; rfl
    have hxl : x9.length ≤ 100 := by
      have := (pile_ok (by omega) hb9.2 hn9).2
      rw [← e9] at this
      omega
    have hgz : sz.getD (0 + (k : Int)).toNat 0 = s9 := by
      rw [show (0 + (k : Int)).toNat = k by omega, List.getD_eq_getElem?_getD, hs9]; rfl
    have hz1 : 0 + (k : Int) < sz.length := by omega
    have htake : sz.take (k + 1) = sz.take k ++ [s9] := by rw [List.take_add_one, hs9]; rfl
    refine tests_one ?_
    rw [hbase] at N5
    simp only [List.cons_append, List.nil_append] at N5
    clear N10 N9 F9 R9
    by_cases hgr : s9 > 1
    · have hrr := hr9 hgr
      rw [← e9, ← hgx] at hrr
      rw [← hgx] at hxl
      have keep : ∀ t', LeftI sz (k + 1) (ys ++ [.str (pileT (s9 - 1) nm9) t']) := fun t' => ⟨ls ++ [pileT (s9 - 1) nm9], strs_snoc hS, by rw [htake, restS_snoc, if_pos hgr]; exact hP.snoc hn9 rfl, by rw [List.length_append, List.length_singleton]; omega⟩
      clear hS hP
      (repeat' (first | (k_unfold; (try dsimp only)) | (k_end; wrow_close) | with_reducible ((with_reducible show wpAny _ _ (call _ _) _ _ _); (rename Fr _ _ _ _ => Fq9); (rename News _ _ _ _ => Nq9); (with_unfolding_all refine range1_toks (by first | assumption | omega | (dsimp only; omega)) Fq9 Nq9 ?_); intro hq9 tkq9 t₁q9 u₁q9 v₁q9 htkRq9 Rq9 FRq9 NRq9) | with_reducible ((with_reducible show wpAny _ _ (exec (PySem.Stmt.Assign _ _ _) _) _ _ _); k_dflt (refine Assign_ListComp_K (F₀ := by k_asm) (by rfl) (by with_unfolding_all rfl) (by with_unfolding_all rfl) (by decide) (by rfl) (by decide) (by rfl) (by rfl) (by rfl) ?_)) | walk1 | (dsimp only; walk1) | (leave1; (try dsimp only)) | fail))
      unfold Halt
      rename Fr _ _ _ _ => F7
      rename News _ _ _ _ => N7
      try rw [hrr]
      exact KSt.intro F7 (by rw [hbase]; exact N7) (keep _)
    · have keep : LeftI sz (k + 1) ys := ⟨ls, hS, by rw [htake, restS_snoc, if_neg hgr]; exact hP, by omega⟩
      clear hS hP
      (repeat' (first | (k_unfold; (try dsimp only)) | (k_end; wrow_close) | with_reducible ((with_reducible show wpAny _ _ (call _ _) _ _ _); (rename Fr _ _ _ _ => Fq9); (rename News _ _ _ _ => Nq9); (with_unfolding_all refine range1_toks (by first | assumption | omega | (dsimp only; omega)) Fq9 Nq9 ?_); intro hq9 tkq9 t₁q9 u₁q9 v₁q9 htkRq9 Rq9 FRq9 NRq9) | with_reducible ((with_reducible show wpAny _ _ (exec (PySem.Stmt.Assign _ _ _) _) _ _ _); k_dflt (refine Assign_ListComp_K (F₀ := by k_asm) (by rfl) (by with_unfolding_all rfl) (by with_unfolding_all rfl) (by decide) (by rfl) (by decide) (by rfl) (by rfl) (by rfl) ?_)) | walk1 | (dsimp only; walk1) | (leave1; (try dsimp only)) | fail))
      unfold Halt
      rename Fr _ _ _ _ => F7
      rename News _ _ _ _ => N7
      exact KSt.intro F7 (by rw [hbase]; exact N7) keep
  · intro D h tk ys hinv F8 N8 hoff
    obtain ⟨ls, hS, hP, hlen⟩ := hinv
    rw [List.take_of_length_le (by omega)] at hP
    rw [hbase] at N8 hoff
    clear N10 N9 F9
    dsimp only
    (repeat' (first | (k_unfold; (try dsimp only)) | (k_end; wrow_close) | with_reducible ((with_reducible show wpAny _ _ (call _ _) _ _ _); (rename Fr _ _ _ _ => Fq9); (rename News _ _ _ _ => Nq9); (with_unfolding_all refine range1_toks (by first | assumption | omega | (dsimp only; omega)) Fq9 Nq9 ?_); intro hq9 tkq9 t₁q9 u₁q9 v₁q9 htkRq9 Rq9 FRq9 NRq9) | with_reducible ((with_reducible show wpAny _ _ (exec (PySem.Stmt.Assign _ _ _) _) _ _ _); k_dflt (refine Assign_ListComp_K (F₀ := by k_asm) (by rfl) (by with_unfolding_all rfl) (by with_unfolding_all rfl) (by decide) (by rfl) (by decide) (by rfl) (by rfl) (by rfl) ?_)) | walk1 | (dsimp only; walk1) | (leave1; (try dsimp only)) | fail))
    unfold Halt
    rename Fr _ _ _ _ => F7
    exact cont D ys ls _ _ hS hP (by omega) hoff F7 N8
end
section
set_option linter.unusedVariables false
set_option maxRecDepth 100000
set_option maxHeartbeats 4000000
theorem arr_cons {v : Value} {ys : List Value} : (#[v].toList ++ ys.toArray.toList).toArray = (v :: ys).toArray := by simp
theorem haltT7 {M : Model} {A : Around} {q1 : Pos} {q2 : Pos} {e : PySem.Expr} {r : List Stmt} {env : Env} {Q : Flow → Shared → Prop} {E : Value → Shared → Prop} {s : Shared} (h : Halt (wpAny M A (execs (Stmt.Assign [PySem.Expr.Name (PySem.Str.ofString "due") q1] e q2 :: r) env) Q E s)) : wpAny M A (execs (Stmt.Assign [PySem.Expr.Name (PySem.Str.ofString "due") q1] e q2 :: r) env) Q E s := h
local macro_rules | `(tactic| walk_at "execs cons") => `(tactic| (with_reducible refine haltT7 ?_))
theorem halt94 {M : Model} {A : Around} {args : List Value} {Q E : Value → Shared → Prop} {s : Shared} (h : Halt (wpAny M A (call (.ref 94) args) Q E s)) : wpAny M A (call (.ref 94) args) Q E s := h
local macro_rules | `(tactic| walk_at "call ref") => `(tactic| (k_here; refine halt94 ?_))
local macro_rules | `(tactic| walk_at "binaryOp Add ref ref") => `(tactic| walk_at "mine.1")
theorem turn7 {w : World} {p : Program} {loose : List PySem.Str} {mean : ExcName → Option Value} {mg mb : PySem.Str → Option Value} (dp un : Nat) (gd : Option (List Code)) (a : Addr) (ccd : Value) (outer : List Env) (A₀ : Around) (base h₀ : Heap) (L : Addr) (s : Shared) (c1 c2 c3 c4 c5 c6 c7 c8 c9 c10 : Obj) (m : PySem.Str → Option Value) (tail : List (Addr × Obj)) (Tn Dl : Addr) (ys : List Value) (nl : Nat) (ls : List PySem.Str) (y : PySem.Str) (u1 u2 : Tok) (v7 : Option Value)
    (Q : Flow → Shared → Prop) (E : Value → Shared → Prop) (B : Below A₀ base outer h₀) (F : Fr h₀ L s.heap m) (X : (K w.params).In h₀) (N : News h₀ L s.heap ((Tn, { cls := .type "tuple", data := .seq #[.str y u1, .str y u2] }) :: (Dl, W.listOf ys.toArray nl) :: (L + 1 + 1 + 1 + 1 + 1 + 1 + 1 + 1 + 1 + 1, c1) :: (L + 1 + 1 + 1 + 1 + 1 + 1 + 1 + 1 + 1, c2) :: (L + 1 + 1 + 1 + 1 + 1 + 1 + 1 + 1, c3) :: (L + 1 + 1 + 1 + 1 + 1 + 1 + 1, c4) :: (L + 1 + 1 + 1 + 1 + 1 + 1, c5) :: (L + 1 + 1 + 1 + 1 + 1, c6) :: (L + 1 + 1 + 1 + 1, c7) :: (L + 1 + 1 + 1, c8) :: (L + 1 + 1, c9) :: (L + 1, c10) :: tail)) (T : Top p loose mean mg mb h₀) (hd : dp + 100 < recursionLimit) (hu : un + 400 < cLine)
    (hvnew : m (.ofString "new") = some (.ref Tn)) (hvleft : m (.ofString "left") = some (.ref Dl)) (d7 : c7.data = .cell v7) (hys : StrsAre ys ls) (hyl : ys.length ≤ 8) (hok : ∀ x ∈ y :: ls, PyData.strOk x = true) (hg4 : ∀ q ∈ tail, q.1 ≠ L + 1 + 1 + 1 + 1) (hT : @LT.lt Nat _ (L + 1 + 1 + 1 + 1 + 1 + 1 + 1 + 1 + 1 + 1) Tn) (hDl : @Ne Nat (L + 1 + 1 + 1 + 1 + 1 + 1 + 1 + 1 + 1 + 1) Dl ∧ @Ne Nat (L + 1 + 1 + 1 + 1 + 1 + 1 + 1 + 1 + 1) Dl ∧ @Ne Nat (L + 1 + 1 + 1 + 1 + 1 + 1 + 1 + 1) Dl ∧ @Ne Nat (L + 1 + 1 + 1 + 1 + 1 + 1 + 1) Dl ∧ @Ne Nat (L + 1 + 1 + 1 + 1 + 1 + 1) Dl ∧ @Ne Nat (L + 1 + 1 + 1 + 1 + 1) Dl ∧ @Ne Nat (L + 1 + 1 + 1 + 1) Dl ∧ @Ne Nat (L + 1 + 1 + 1) Dl ∧ @Ne Nat (L + 1 + 1) Dl ∧ @Ne Nat (L + 1) Dl)
    (cont : ∀ (D : Addr) (n : Nat) (c7' : Obj) h' tk', c7'.data = .cell (some (.ref D)) → (∀ q ∈ (Tn, { cls := .type "tuple", data := .seq #[.str y u1, .str y u2] }) :: (Dl, W.listOf ys.toArray nl) :: (L + 1 + 1 + 1 + 1 + 1 + 1 + 1 + 1 + 1 + 1, c1) :: (L + 1 + 1 + 1 + 1 + 1 + 1 + 1 + 1 + 1, c2) :: (L + 1 + 1 + 1 + 1 + 1 + 1 + 1 + 1, c3) :: (L + 1 + 1 + 1 + 1 + 1 + 1 + 1, c4) :: (L + 1 + 1 + 1 + 1 + 1 + 1, c5) :: (L + 1 + 1 + 1 + 1 + 1, c6) :: (L + 1 + 1 + 1 + 1, c7) :: (L + 1 + 1 + 1, c8) :: (L + 1 + 1, c9) :: (L + 1, c10) :: tail, @LT.lt Nat _ q.1 D) → Fr h₀ L h' m → News h₀ L h' ((D, W.listOf (Value.str y u1 :: ys).toArray n) :: (L + 1 + 1 + 1 + 1 + 1 + 1 + 1 + 1 + 1 + 1, c1) :: (L + 1 + 1 + 1 + 1 + 1 + 1 + 1 + 1 + 1, c2) :: (L + 1 + 1 + 1 + 1 + 1 + 1 + 1 + 1, c3) :: (L + 1 + 1 + 1 + 1 + 1 + 1 + 1, c4) :: (L + 1 + 1 + 1 + 1 + 1 + 1, c5) :: (L + 1 + 1 + 1 + 1 + 1, c6) :: (L + 1 + 1 + 1 + 1, c7') :: (L + 1 + 1 + 1, c8) :: (L + 1 + 1, c9) :: (L + 1, c10) :: tail) → wpAny (model pw w) (ktrTop dp un gd (.ofString "law") lawScope L a ccd (cellsFrom (L + 1) lawScope.names []) outer) (execs (turnBody.drop 16) (envOfC (.ofString "law") lawScope L a ccd)) Q E { s with heap := h', toks := tk' }) :
    wpAny (model pw w) (ktrTop dp un gd (.ofString "law") lawScope L a ccd (cellsFrom (L + 1) lawScope.names []) outer) (execs (turnBody.drop 14) (envOfC (.ofString "law") lawScope L a ccd)) Q E s := by
  have hvs : ∀ p ∈ ([(.ofString "new", .ref Tn), (.ofString "left", .ref Dl)] : List (PySem.Str × Value)), m p.1 = some p.2 := List.forall_mem_cons.mpr ⟨hvnew, List.forall_mem_cons.mpr ⟨hvleft, List.forall_mem_nil _⟩⟩
  have F := fr_over F hvs
  refine' law_in (A := fun sc => ktrTop dp un gd (.ofString "law") sc L a ccd (cellsFrom (L + 1) sc.names []) outer) (env := fun sc => envOfC (.ofString "law") sc L a ccd) ?hs ?hb ?_
  case hs => conv => lhs; whnf
  case hb => conv => lhs; whnf
  dsimp only
  (repeat' (first | (k_unfold; (try dsimp only)) | (k_end; wrow_close) | with_reducible ((with_reducible show wpAny _ _ (compareOp CmpOp.NotEq (Value.ref _) (Value.ref _)) _ _ _); k_dflt (refine' ne_strs_same ?N ?ha ?hb ?hi ?hj ?ho ?hu ?_; (case N => k_asm); (case ha => k_mem); (case hb => k_mem); (case hi => assumption); (case hj => assumption); (case ho => assumption); (case hu => ke_room))) | walk1 | (dsimp only; walk1) | (leave1; (try dsimp only)) | fail))
  unfold Halt
  refine' con_concat _ _ _ _ _ _ _ _ _ _ _ _ _ _ _ _ _ _ _ _ _ _ _ _ ?kB ?kF ?kX ?kN ?kT ?kk ?kd ?ku ?ha ?hb ?hsz ?_
  case kB => k_asm
  case kF => k_asm
  case kX => k_asm
  case kN => k_asm
  case kT => k_asm
  case kk => rfl
  case kd => ktr_room
  case ku => ke_room
  case ha => k_mem
  case hb => k_mem
  case hsz => (rw [sizeLine_eq, List.size_toArray]; simp only [List.size_toArray, List.length_cons, List.length_nil]; omega)
  intro D h1 tk1 hlt F1 N1
  rw [arr_cons] at N1
  have hlt' : ∀ q ∈ (Tn, { cls := .type "tuple", data := .seq #[.str y u1, .str y u2] }) :: (Dl, W.listOf ys.toArray nl) :: (L + 1 + 1 + 1 + 1 + 1 + 1 + 1 + 1 + 1 + 1, c1) :: (L + 1 + 1 + 1 + 1 + 1 + 1 + 1 + 1 + 1, c2) :: (L + 1 + 1 + 1 + 1 + 1 + 1 + 1 + 1, c3) :: (L + 1 + 1 + 1 + 1 + 1 + 1 + 1, c4) :: (L + 1 + 1 + 1 + 1 + 1 + 1, c5) :: (L + 1 + 1 + 1 + 1 + 1, c6) :: (L + 1 + 1 + 1 + 1, c7) :: (L + 1 + 1 + 1, c8) :: (L + 1 + 1, c9) :: (L + 1, c10) :: tail, @LT.lt Nat _ q.1 D := fun q hq => hlt q (.tail _ hq)
  have hlt2 := hlt'
  simp only [List.forall_mem_cons] at hlt
  have hgtD := hlt.2.2.2.2.2.2.2.2.2.2.2.2.2
  have hneD : ∀ q ∈ tail, q.1 ≠ D := fun q hq => Nat.ne_of_lt (hgtD q hq)
  have N2 : News h₀ L h1 ((D, W.listOf (Value.str y u1 :: ys).toArray 0) :: _) := N1
  clear N1
  (repeat' (first | (k_unfold; (try dsimp only)) | (k_end; wrow_close) | with_reducible ((with_reducible show wpAny _ _ (compareOp CmpOp.NotEq (Value.ref _) (Value.ref _)) _ _ _); k_dflt (refine' ne_strs_same ?N ?ha ?hb ?hi ?hj ?ho ?hu ?_; (case N => k_asm); (case ha => k_mem); (case hb => k_mem); (case hi => assumption); (case hj => assumption); (case ho => assumption); (case hu => ke_room))) | walk1 | (dsimp only; walk1) | (leave1; (try dsimp only)) | fail))
  unfold Halt
  refine' add_arraysF ?F ?N ?a ?b ?_ ?z
  case F => k_asm
  case N => k_asm
  case a => exact News.isList (by k_asm) (by k_mem)
  case b => exact News.isList (by k_asm) (by k_mem)
  case z => rw [sizeLine_eq, List.size_toArray]; simp only [List.size_toArray, List.length_cons, List.length_nil]; omega
  intro D2 h2 hlt3 F2 N2
  rw [arr_cons] at N2
  have N3 : News h₀ L h2 ((D2, W.listOf (Value.str y u2 :: ys).toArray 0) :: _) := N2
  clear N2 hlt3 hlt'
  have hi1 : StrsAre (Value.str y u1 :: ys) (y :: ls) := .cons y u1 hys
  have hi2 : StrsAre (Value.str y u2 :: ys) (y :: ls) := .cons y u2 hys
  clear hys
  (repeat' (first | (k_unfold; (try dsimp only)) | (k_end; wrow_close) | with_reducible ((with_reducible show wpAny _ _ (compareOp CmpOp.NotEq (Value.ref _) (Value.ref _)) _ _ _); k_dflt (refine' ne_strs_same ?N ?ha ?hb ?hi ?hj ?ho ?hu ?_; (case N => k_asm); (case ha => k_mem); (case hb => k_mem); (case hi => assumption); (case hj => assumption); (case ho => assumption); (case hu => ke_room))) | walk1 | (dsimp only; walk1) | (leave1; (try dsimp only)) | fail))
  unfold Halt
  rename Fr _ _ _ _ => F7
  rename News _ _ _ _ => N7
  exact cont D 0 _ _ _ (by assumption) hlt2 (fr_base hvs F7) (fun p hp => N7 p (by
    rcases List.mem_cons.mp hp with rfl | hp
    · k_mem
    · repeat (first | exact hp | apply List.mem_cons_of_mem)))
end
section
set_option linter.unusedVariables false
set_option maxRecDepth 100000
set_option maxHeartbeats 4000000
local macro_rules | `(tactic| walk_at "CompSrc") => `(tactic| walk_at "mine.1")
local macro_rules | `(tactic| walk_at "CompEnd") => `(tactic| walk_at "mine.1")
local macro_rules | `(tactic| walk_at "FinE") => `(tactic| walk_at "mine.1")
local macro_rules | `(tactic| walk_at "CompSrcT") => `(tactic| walk_at "mine.1")
local macro_rules | `(tactic| walk_at "binaryOp Add ref ref") => `(tactic| walk_at "mine.1")
theorem turn8 {w : World} {p : Program} {loose : List PySem.Str} {mean : ExcName → Option Value} {mg mb : PySem.Str → Option Value} (dp un : Nat) (gd : Option (List Code)) (a : Addr) (ccd : Value) (outer : List Env) (A₀ : Around) (base h₀ : Heap) (L : Addr) (s : Shared) (c1 c2 c3 c4 c5 c6 c7 c8 c9 c10 : Obj) (m : PySem.Str → Option Value) (tail : List (Addr × Obj)) (Dd : Addr) (vd : List Value) (nd : Nat) (ds : List Int)
    (Q : Flow → Shared → Prop) (E : Value → Shared → Prop) (B : Below A₀ base outer h₀) (F : Fr h₀ L s.heap m) (X : (K w.params).In h₀) (N : News h₀ L s.heap ((Dd, W.listOf vd.toArray nd) :: (L + 1 + 1 + 1 + 1 + 1 + 1 + 1 + 1 + 1 + 1, c1) :: (L + 1 + 1 + 1 + 1 + 1 + 1 + 1 + 1 + 1, c2) :: (L + 1 + 1 + 1 + 1 + 1 + 1 + 1 + 1, c3) :: (L + 1 + 1 + 1 + 1 + 1 + 1 + 1, c4) :: (L + 1 + 1 + 1 + 1 + 1 + 1, c5) :: (L + 1 + 1 + 1 + 1 + 1, c6) :: (L + 1 + 1 + 1 + 1, c7) :: (L + 1 + 1 + 1, c8) :: (L + 1 + 1, c9) :: (L + 1, c10) :: tail)) (T : Top p loose mean mg mb h₀) (hd : dp + 100 < recursionLimit) (hu : un + 400 < cLine)
    (hvdue : m (.ofString "due") = some (.ref Dd)) (hvd : IntsAre vd ds) (hd8 : ds.length ≤ 8)
    (cont : ∀ (D : Addr) (ws : List Value) (n : Nat) (es : List Int) h' tk', IntsAre ws es → es.Perm (restS ds ++ [(ds.length : Int)]) → List.Pairwise (fun x y => x ≤ y) es → (∀ q ∈ (Dd, W.listOf vd.toArray nd) :: (L + 1 + 1 + 1 + 1 + 1 + 1 + 1 + 1 + 1 + 1, c1) :: (L + 1 + 1 + 1 + 1 + 1 + 1 + 1 + 1 + 1, c2) :: (L + 1 + 1 + 1 + 1 + 1 + 1 + 1 + 1, c3) :: (L + 1 + 1 + 1 + 1 + 1 + 1 + 1, c4) :: (L + 1 + 1 + 1 + 1 + 1 + 1, c5) :: (L + 1 + 1 + 1 + 1 + 1, c6) :: (L + 1 + 1 + 1 + 1, c7) :: (L + 1 + 1 + 1, c8) :: (L + 1 + 1, c9) :: (L + 1, c10) :: tail, @LT.lt Nat _ q.1 D) → Fr h₀ L h' (upd m (.ofString "due") (.ref D)) → News h₀ L h' ((D, W.listOf ws.toArray n) :: (Dd, W.listOf vd.toArray nd) :: (L + 1 + 1 + 1 + 1 + 1 + 1 + 1 + 1 + 1 + 1, c1) :: (L + 1 + 1 + 1 + 1 + 1 + 1 + 1 + 1 + 1, c2) :: (L + 1 + 1 + 1 + 1 + 1 + 1 + 1 + 1, c3) :: (L + 1 + 1 + 1 + 1 + 1 + 1 + 1, c4) :: (L + 1 + 1 + 1 + 1 + 1 + 1, c5) :: (L + 1 + 1 + 1 + 1 + 1, c6) :: (L + 1 + 1 + 1 + 1, c7) :: (L + 1 + 1 + 1, c8) :: (L + 1 + 1, c9) :: (L + 1, c10) :: tail) → Q .next { s with heap := h', toks := tk' }) :
    wpAny (model pw w) (ktrTop dp un gd (.ofString "law") lawScope L a ccd (cellsFrom (L + 1) lawScope.names []) outer) (execs (turnBody.drop 16) (envOfC (.ofString "law") lawScope L a ccd)) Q E s := by
  have hvs : ∀ p ∈ ([(.ofString "due", .ref Dd)] : List (PySem.Str × Value)), m p.1 = some p.2 := List.forall_mem_cons.mpr ⟨hvdue, List.forall_mem_nil _⟩
  have F := fr_over F hvs
  refine' law_in (A := fun sc => ktrTop dp un gd (.ofString "law") sc L a ccd (cellsFrom (L + 1) sc.names []) outer) (env := fun sc => envOfC (.ofString "law") sc L a ccd) ?hs ?hb ?_
  case hs => conv => lhs; whnf
  case hb => conv => lhs; whnf
  dsimp only
  have hvl := hvd.length
  (repeat' (first | (k_unfold; (try dsimp only)) | (k_end; wrow_close) | with_reducible ((with_reducible show wpAny _ _ (eval (PySem.Expr.ListComp _ _ _ _ ) _) _ _ _); k_dflt (refine LCt.ListComp_T (F₀ := by k_asm) (by with_unfolding_all rfl) (by decide) (by rfl) (by decide) (by rfl) ?_)) | walk1 | (dsimp only; walk1) | (leave1; (try dsimp only)) | fail))
  unfold Halt
  rename Fr _ _ _ _ => F9
  rename News _ _ _ _ => N9
  obtain ⟨base, hbase, N10⟩ := news_gen N9
  have hDb : (Dd, W.listOf vd.toArray nd) ∈ base := by rw [hbase]; k_mem
  refine LCt.CompSrcT.ledger (its := vd.toArray) (by rfl) F9 N10 hDb (by rw [sizeLine_eq, List.size_toArray]; omega) (fun g => ?_)
  refine restT_inv vd.toArray.size (fun i zs nw => nw = base ∧ IntsAre zs (restS (ds.take i))) ?turn ?fin vd.toArray.size 0 [] _ (by omega) ⟨rfl, .nil⟩
  case turn =>
    rintro k zs nw v I oI C oC D2 m₂ h tk E' hk ⟨hnw, hz⟩ hv h3 h4 h5 h6 h7 h8
    rw [hnw] at h6 h7
    clear hnw
    obtain ⟨t9, hlt9, rfl⟩ := ints_at hvd hv
    have htk9 := take_succ_getD hlt9
    generalize ds.getD k 0 = z9 at htk9 h4 hv ⊢
    clear N10 N9 F9
    by_cases hgr : z9 > 1
    · (repeat' (first | (k_unfold; (try dsimp only)) | (k_end; wrow_close) | with_reducible ((with_reducible show wpAny _ _ (eval (PySem.Expr.ListComp _ _ _ _ ) _) _ _ _); k_dflt (refine LCt.ListComp_T (F₀ := by k_asm) (by with_unfolding_all rfl) (by decide) (by rfl) (by decide) (by rfl) ?_)) | walk1 | (dsimp only; walk1) | (leave1; (try dsimp only)) | fail))
      all_goals unfold Halt
      rename Fr _ _ _ _ => F7
      rename News _ _ _ _ => N7
      exact LCg.CompEnd.intro F7 N7 base (fun p hp => hp) h7 (.inr ⟨_, hDb, rfl, _, rfl⟩) ⟨rfl, by rw [htk9, restS_snoc, if_pos hgr]; exact ints_snoc hz⟩
    · (repeat' (first | (k_unfold; (try dsimp only)) | (k_end; wrow_close) | with_reducible ((with_reducible show wpAny _ _ (eval (PySem.Expr.ListComp _ _ _ _ ) _) _ _ _); k_dflt (refine LCt.ListComp_T (F₀ := by k_asm) (by with_unfolding_all rfl) (by decide) (by rfl) (by decide) (by rfl) ?_)) | walk1 | (dsimp only; walk1) | (leave1; (try dsimp only)) | fail))
      all_goals unfold Halt
      rename Fr _ _ _ _ => F7
      rename News _ _ _ _ => N7
      exact LCg.CompEnd.intro F7 N7 base (fun p hp => hp) h7 (.inr ⟨_, hDb, rfl, _, rfl⟩) ⟨rfl, by rw [htk9, restS_snoc, if_neg hgr]; exact hz⟩
  case fin =>
    rintro zs nw ⟨hnw, hz⟩
    intro D2 h tk F3 N3 O3
    rw [List.take_of_length_le (by rw [List.size_toArray]; omega)] at hz
    have hrl : (restS ds).length ≤ ds.length := by unfold restS; rw [List.length_map]; exact List.length_filter_le _ _
    have hzl := hz.length
    rw [hnw, hbase] at N3
    clear hnw N10 N9 F9 O3
    have N4 : News h₀ L h ((D2, W.listOf zs.toArray zs.length) :: _) := N3
    clear N3
    dsimp only
    (repeat' (first | (k_unfold; (try dsimp only)) | (k_end; wrow_close) | with_reducible ((with_reducible show wpAny _ _ (eval (PySem.Expr.ListComp _ _ _ _ ) _) _ _ _); k_dflt (refine LCt.ListComp_T (F₀ := by k_asm) (by with_unfolding_all rfl) (by decide) (by rfl) (by decide) (by rfl) ?_)) | walk1 | (dsimp only; walk1) | (leave1; (try dsimp only)) | fail))
    try unfold Halt
    show wpAny _ _ _ _ _ _
    have hone : ∀ t, IntsAre [Value.int (ds.length : Int) t] [(ds.length : Int)] := fun t => .cons _ t .nil
    refine' kmk_add_ints (vs := zs) (ws := [Value.int (ds.length : Int) _]) ?F ?N ?a ?b ?i ?j ?_ ?z
    case F => k_asm
    case N => k_asm
    case a => exact News.isList (by k_asm) (by k_mem)
    case b => exact News.isList (by k_asm) (by k_mem)
    case i => exact hz
    case j => exact hone _
    case z => rw [sizeLine_eq]; simp only [List.length_cons, List.length_nil]; omega
    intro D3 us h3 F3 N3 hlt3 hus
    have hul := hus.length
    rw [List.length_append, List.length_singleton] at hul
    simp only [List.forall_mem_cons] at hlt3
    have N4 : News h₀ L h3 ((D3, W.listOf us.toArray 0) :: _) := N3
    clear N3 hone hz
    (repeat' (first | (k_unfold; (try dsimp only)) | (k_end; wrow_close) | with_reducible ((with_reducible show wpAny _ _ (eval (PySem.Expr.ListComp _ _ _ _ ) _) _ _ _); k_dflt (refine LCt.ListComp_T (F₀ := by k_asm) (by with_unfolding_all rfl) (by decide) (by rfl) (by decide) (by rfl) ?_)) | walk1 | (dsimp only; walk1) | (leave1; (try dsimp only)) | fail))
    rename Fr _ _ _ _ => F7
    rename News _ _ _ _ => N7
    rename IntsAre _ _ => i7
    rename List.Perm _ _ => p7
    rename List.Pairwise _ _ => o7
    rename _ ∧ _ => l7
    exact cont _ _ _ _ _ _ i7 p7 o7 (List.forall_mem_cons.mpr ⟨l7.2.2.2.1, List.forall_mem_cons.mpr ⟨l7.2.2.2.2.1, List.forall_mem_cons.mpr ⟨l7.2.2.2.2.2.1, List.forall_mem_cons.mpr ⟨l7.2.2.2.2.2.2.1, List.forall_mem_cons.mpr ⟨l7.2.2.2.2.2.2.2.1, List.forall_mem_cons.mpr ⟨l7.2.2.2.2.2.2.2.2.1, List.forall_mem_cons.mpr ⟨l7.2.2.2.2.2.2.2.2.2.1, List.forall_mem_cons.mpr ⟨l7.2.2.2.2.2.2.2.2.2.2.1, List.forall_mem_cons.mpr ⟨l7.2.2.2.2.2.2.2.2.2.2.2.1, List.forall_mem_cons.mpr ⟨l7.2.2.2.2.2.2.2.2.2.2.2.2.1, List.forall_mem_cons.mpr ⟨l7.2.2.2.2.2.2.2.2.2.2.2.2.2.1, allLt_mem l7.2.2.2.2.2.2.2.2.2.2.2.2.2.2⟩⟩⟩⟩⟩⟩⟩⟩⟩⟩⟩) (fr_upd hvs F7) (news_drop [_] [_, _, _] N7)
end
section
set_option linter.unusedVariables false
set_option maxRecDepth 100000
/- what the kernel's word on the sizes says -/
theorem insI_perm (x : Int) : ∀ l : List Int, (insI x l).Perm (x :: l)
  | [] => .refl _
  | y :: r => by
    unfold insI
    by_cases h : x ≤ y
    · rw [if_pos h]
    · rw [if_neg h]; exact ((insI_perm x r).cons y).trans (.swap x y r)
theorem isort_perm : ∀ l : List Int, (isort l).Perm l
  | [] => .refl _
  | x :: r => by
    unfold isort
    exact (insI_perm x _).trans ((isort_perm r).cons x)
theorem insI_sorted (x : Int) : ∀ l : List Int, List.Pairwise (fun x y => x ≤ y) l → List.Pairwise (fun x y => x ≤ y) (insI x l)
  | [], _ => List.pairwise_singleton _ _
  | y :: r, h => by
    unfold insI
    obtain ⟨h1, h2⟩ := List.pairwise_cons.mp h
    by_cases hx : x ≤ y
    · rw [if_pos hx]
      refine List.pairwise_cons.mpr ⟨fun z hz => ?_, h⟩
      rcases List.mem_cons.mp hz with rfl | hz
      · exact hx
      · have := h1 z hz; omega
    · rw [if_neg hx]
      refine List.pairwise_cons.mpr ⟨fun z hz => ?_, insI_sorted x r h2⟩
      rcases List.mem_cons.mp ((insI_perm x r).subset hz) with rfl | hz
      · omega
      · exact h1 z hz
theorem isort_sorted : ∀ l : List Int, List.Pairwise (fun x y => x ≤ y) (isort l)
  | [] => .nil
  | x :: r => by unfold isort; exact insI_sorted x _ (isort_sorted r)
theorem sorted_last {l : List Int} (h : List.Pairwise (fun x y => x ≤ y) l) (hp : 0 < l.length) : l.getLast? = some (lastI l) ∧ ∀ d ∈ l, d ≤ lastI l := by
  have hne : l ≠ [] := by rintro rfl; simp at hp
  have e : l.getLast? = some (l.getLast hne) := List.getLast?_eq_some_getLast hne
  have el : lastI l = l.getLast hne := by unfold lastI; rw [e]; rfl
  refine ⟨by rw [el]; exact e, fun d hd => ?_⟩
  rw [el]
  rw [← List.dropLast_concat_getLast hne] at hd h
  rcases List.mem_append.mp hd with hd | hd
  · exact (List.pairwise_append.mp h).2.2 d hd _ (List.mem_singleton.mpr rfl)
  · rw [List.mem_singleton.mp hd]
    omega
theorem lineS_len : ∀ sz : List Int, (∀ s ∈ sz, 1 ≤ s) → ((lineS sz).length : Int) = 4 * sz.sum + 2 * sz.length
  | [], _ => rfl
  | s :: r, h => by
    have ih := lineS_len r (fun s q => h s (.tail _ q))
    have h1 := h s (.head _)
    unfold lineS at ih ⊢
    rw [List.flatMap_cons, List.length_append, List.length_append, List.length_replicate, List.sum_cons, List.length_cons]
    simp only [List.length_cons, List.length_nil]
    omega
theorem normC_len (ds : List Int) (b : Int) : (normC ds b).length = (4 * b + 2).toNat := by
  unfold normC
  rw [nfold_len]
  simp
/-- one turn's facts -/
structure TurnP (sz : List Int) (total : Int) : Prop where
  no : normS (leadS sz) = (normC (dueS sz) (lastI (dueS sz)), 3)
  lv : lvl (runS (leadS sz)).1 (runS (leadS sz)).2.1 (runS (leadS sz)).2.2.2 = 4 * (total + (dueS sz).length) + 3
  nx : isort (restS (dueS sz) ++ [((dueS sz).length : Int)]) = dueS (stepS sz)
  s8 : ∀ s ∈ sz, 1 ≤ s ∧ s ≤ 8
  l8 : sz.length ≤ 8
  l1 : 1 ≤ sz.length
  sm : sz.sum = total
theorem turnP_of {sz : List Int} {total : Int} (h : turnOk sz total = true) : TurnP sz total := by
  unfold turnOk at h
  simp only [Bool.and_eq_true, beq_iff_eq, decide_eq_true_eq, List.all_eq_true] at h
  obtain ⟨⟨⟨⟨⟨⟨a, b⟩, c⟩, d⟩, e⟩, f⟩, g⟩ := h
  exact ⟨a, b, c, fun s hs => d s hs, e, f, g⟩
section
variable {sz : List Int} {total : Int} (p : TurnP sz total)
include p
theorem TurnP.dperm : (dueS sz).Perm sz := isort_perm sz
theorem TurnP.dsort : List.Pairwise (fun x y => x ≤ y) (dueS sz) := isort_sorted sz
theorem TurnP.dlen : (dueS sz).length = sz.length := p.dperm.length_eq
theorem TurnP.dlast : (dueS sz).getLast? = some (lastI (dueS sz)) := (sorted_last p.dsort (by rw [p.dlen]; exact p.l1)).1
theorem TurnP.db : ∀ d ∈ dueS sz, 0 ≤ d ∧ d ≤ lastI (dueS sz) := fun d hd => ⟨by have := (p.s8 d (p.dperm.subset hd)).1; omega, (sorted_last p.dsort (by rw [p.dlen]; exact p.l1)).2 d hd⟩
theorem TurnP.last8 : 1 ≤ lastI (dueS sz) ∧ lastI (dueS sz) ≤ 8 := p.s8 _ (p.dperm.subset (List.mem_of_getLast? p.dlast))
theorem TurnP.line (h8 : total ≤ 8) : (lineS sz).length ≤ 100 := by
  have h := lineS_len sz fun s hs => (p.s8 s hs).1
  have h1 := p.l8
  have h2 := p.sm
  omega
end
/-- the whole plan of one set of cards -/
structure Plan (CL : List Int) (T k0 : Nat) : Prop where
  k0T : k0 < T
  T24 : T < 24
  tn : ∀ t, t ≤ T → TurnP (sizesAt CL t) CL.sum
  ne : ∀ t, t < T → ∀ k, k < t → normS (leadS (sizesAt CL k)) ≠ normS (leadS (sizesAt CL t))
  eq : ∀ k, k < T → (normS (leadS (sizesAt CL k)) = normS (leadS (sizesAt CL T)) ↔ k = k0)
  q1 : decide (normS (lineS (sizesAt CL T) ++ runL ((dueS (sizesAt CL T)).getD 0 0)) = normS (lineS (sizesAt CL T) ++ runL (lastI (dueS (sizesAt CL T))))) = decide ((dueS (sizesAt CL T)).getD 0 0 = lastI (dueS (sizesAt CL T)))
  q2 : normS (leadS (sizesAt CL T)) ≠ normS (lineS (sizesAt CL T) ++ [32, 32])
  ex : (extrasS CL T).map (fun e => !decide (e = [])) = (List.range T).map (fun (k : Nat) => decide ((k0 : Int) ≤ 0 + (k : Int)))
  rot : ∀ k, k < T - k0 → ((extrasS CL T).drop k0).getD ((k + 1) % (T - k0)) [] = rotI (((extrasS CL T).drop k0).getD k [])
  per : (periods (((extrasS CL T).drop k0).getD 0 [])).head? = some (T - k0)
theorem beq_dec {α : Type} [DecidableEq α] (a b : α) : (a == b) = decide (a = b) := rfl
theorem plan_of {CL : List Int} (h : CL ∈ cardSets) : ∃ T k0, Plan CL T k0 := by
  have hp := List.all_eq_true.mp plan_all CL h
  unfold planOk at hp
  split at hp
  · cases hp
  · rename_i T k0 _
    simp only [Bool.and_eq_true, List.all_eq_true, List.mem_range, Bool.not_eq_true', beq_eq_false_iff_ne] at hp
    obtain ⟨⟨⟨h1, h2⟩, h3⟩, h4⟩ := hp
    unfold tailOk at h4
    simp only [Bool.and_eq_true, List.all_eq_true, List.mem_range, Bool.not_eq_true', beq_eq_false_iff_ne, decide_eq_true_eq] at h4
    obtain ⟨⟨⟨⟨⟨⟨a, b⟩, c⟩, d⟩, e⟩, f⟩, g⟩ := h4
    refine ⟨T, k0, f, g, fun t ht => turnP_of (h1 t (by omega)), fun t ht k hk => h2 t ht k hk, fun k hk => ?_, ?_, b, ?_, fun k hk => beq_iff_eq.mp (d k hk), beq_iff_eq.mp e⟩
    · have := beq_iff_eq.mp (h3 k hk)
      constructor
      · intro q
        rw [q, beq_self_eq_true] at this
        exact beq_iff_eq.mp this.symm
      · intro q
        subst q
        rw [beq_self_eq_true] at this
        exact beq_iff_eq.mp this
    · have := beq_iff_eq.mp a
      have e1 : ∀ x y : List Int × Int, (x == y) = decide (x = y) := fun x y => by
        by_cases q : x = y
        · rw [q, beq_self_eq_true, decide_eq_true rfl]
        · rw [beq_eq_false_iff_ne.mpr q, decide_eq_false q]
      have e2 : ∀ x y : Int, (x == y) = decide (x = y) := fun x y => rfl
      rw [e1, e2] at this
      exact this
    · have := beq_iff_eq.mp c
      have e1 : ∀ x : List Int, (!(x == [])) = !decide (x = []) := fun x => by cases x <;> rfl
      have e2 : (fun e : List Int => !(e == [])) = fun e => !decide (e = []) := funext e1
      rw [e2] at this
      rw [this]
      apply List.map_congr_left
      intro k _
      by_cases q : k0 ≤ k
      · rw [decide_eq_true q, decide_eq_true (by omega)]
      · rw [decide_eq_false q, decide_eq_false (by omega)]
end
section
set_option linter.unusedVariables false
set_option maxRecDepth 100000
set_option maxHeartbeats 4000000
/-- the loop's own state -/
structure LSt where
  Dd : Addr
  Dp : Addr
  nl : Nat
  ns : Nat
  nd : Nat
  np : Nat
  os : List Ws
  sts : List LE
  vd : List Value
  vp : List Value
  xs : List PySem.Str
  c2 : Obj
  c3 : Obj
  c4 : Obj
  c5 : Obj
  c7 : Obj
  rest : List (PySem.Str × Value)
  tail : List (Addr × Obj)
noncomputable def lNW (L Dl Ds Dh : Addr) (vh : List Value) (c1 c6 c8 c9 c10 : Obj) (a : LSt) : List (Addr × Obj) :=
  (Dl, W.listOf (a.os.map fun o => Value.ref o.I).toArray a.nl) :: (Ds, W.listOf (a.sts.map fun e => Value.ref e.1).toArray a.ns) :: (a.Dd, W.listOf a.vd.toArray a.nd) :: (a.Dp, W.listOf a.vp.toArray a.np) :: (Dh, W.listOf vh.toArray 4) :: (L + 1 + 1 + 1 + 1 + 1 + 1 + 1 + 1 + 1 + 1, c1) :: (L + 1 + 1 + 1 + 1 + 1 + 1 + 1 + 1 + 1, a.c2) :: (L + 1 + 1 + 1 + 1 + 1 + 1 + 1 + 1, a.c3) :: (L + 1 + 1 + 1 + 1 + 1 + 1 + 1, a.c4) :: (L + 1 + 1 + 1 + 1 + 1 + 1, a.c5) :: (L + 1 + 1 + 1 + 1 + 1, c6) :: (L + 1 + 1 + 1 + 1, a.c7) :: (L + 1 + 1 + 1, c8) :: (L + 1 + 1, c9) :: (L + 1, c10) :: a.tail
noncomputable def lOv (Ds : Addr) (a : LSt) : List (PySem.Str × Value) := (.ofString "due", .ref a.Dd) :: (.ofString "states", .ref Ds) :: a.rest
noncomputable def names4 : List PySem.Str := [.ofString "line", .ofString "column", .ofString "new", .ofString "left"]
structure LInv (P : Params) (L Dl Ds : Addr) (CL : List Int) (Tm : Nat) (i : Nat) (a : LSt) : Prop where
  hi : i ≤ Tm
  ol : a.os.length = i
  sl : a.sts.length = i
  ho : ∀ k o, a.os[k]? = some o → IntsAre o.its o.cs ∧ (o.cs, o.b) = normS (leadS (sizesAt CL k)) ∧ ∀ p ∈ wsLed P o, p ∈ a.tail
  hs : ∀ k e, a.sts[k]? = some e → leObj e ∈ a.tail ∧ IntsAre e.2.1 e.2.2.2 ∧ e.2.2.2 = dueS (sizesAt CL k)
  vp : StrsAre a.vp a.xs
  xs : PilesAre a.xs (sizesAt CL i)
  vd : IntsAre a.vd (dueS (sizesAt CL i))
  d7 : a.c7.data = .cell (some (.ref a.Dp))
  d2 : ∃ v, a.c2.data = .cell v
  d3 : ∃ v, a.c3.data = .cell v
  d4 : ∃ v, a.c4.data = .cell v
  d5 : ∃ v, a.c5.data = .cell v
  tl : ∀ q ∈ a.tail, @LT.lt Nat _ (L + 1 + 1 + 1 + 1 + 1 + 1 + 1 + 1 + 1 + 1) q.1 ∧ @Ne Nat q.1 Dl ∧ @Ne Nat q.1 Ds
  nd : @LT.lt Nat _ (L + 1 + 1 + 1 + 1 + 1 + 1 + 1 + 1 + 1 + 1) a.Dd ∧ @Ne Nat a.Dd Dl ∧ @Ne Nat a.Dd Ds
  np : (@Ne Nat (L + 1 + 1 + 1 + 1 + 1 + 1 + 1 + 1 + 1 + 1) a.Dp ∧ @Ne Nat (L + 1 + 1 + 1 + 1 + 1 + 1 + 1 + 1 + 1) a.Dp ∧ @Ne Nat (L + 1 + 1 + 1 + 1 + 1 + 1 + 1 + 1) a.Dp ∧ @Ne Nat (L + 1 + 1 + 1 + 1 + 1 + 1 + 1) a.Dp ∧ @Ne Nat (L + 1 + 1 + 1 + 1 + 1 + 1) a.Dp ∧ @Ne Nat (L + 1 + 1 + 1 + 1 + 1) a.Dp ∧ @Ne Nat (L + 1 + 1 + 1 + 1) a.Dp ∧ @Ne Nat (L + 1 + 1 + 1) a.Dp ∧ @Ne Nat (L + 1 + 1) a.Dp ∧ @Ne Nat (L + 1) a.Dp) ∧ @Ne Nat a.Dp Dl ∧ @Ne Nat a.Dp Ds
  rs : ∀ p ∈ a.rest, p.1 ∈ names4
structure LDn (P : Params) (L Ds : Addr) (CL : List Int) (Tm k0 : Nat) (a : LSt) : Prop where
  sl : a.sts.length = Tm
  hs : ∀ k e, a.sts[k]? = some e → leObj e ∈ a.tail ∧ IntsAre e.2.1 e.2.2.2 ∧ e.2.2.2 = dueS (sizesAt CL k)
  vd : IntsAre a.vd (dueS (sizesAt CL Tm))
  tl : ∀ q ∈ a.tail, @Ne Nat q.1 (L + 1 + 1 + 1 + 1 + 1 + 1 + 1 + 1 + 1 + 1)
  ld : ∃ (o : Ws) (Dm : Addr) (tm : Tok) (x : PySem.Str) (t : Tok) (r : List (PySem.Str × Value)), a.rest = (.ofString "line", .str x t) :: r ∧ x.cps.toList = lineS (sizesAt CL Tm) ∧ IntsAre o.its o.cs ∧ (o.cs, o.b) = normS (leadS (sizesAt CL Tm)) ∧ (∀ p ∈ wsLed P o, p ∈ a.tail) ∧ a.c4.data = .cell (some (.ref o.I)) ∧
    a.c5.data = .cell (some (.ref Dm)) ∧ (Dm, W.listOf #[Value.int (0 + (k0 : Int)) tm] 1) ∈ a.tail ∧ @Ne Nat (L + 1 + 1 + 1 + 1 + 1 + 1 + 1 + 1 + 1 + 1) Dm
theorem gtne {a c x : Nat} (h : a < x) (hc : c ≤ a) : @Ne Addr x c := Nat.ne_of_gt (Nat.lt_of_le_of_lt hc h)
theorem ovr_cons {k : PySem.Str} {v : Value} {l : List (PySem.Str × Value)} {m : PySem.Str → Option Value} {y : PySem.Str} : ovr ((k, v) :: l) m y = if y = k then some v else ovr l m y := by
  unfold ovr
  rw [List.lookup_cons]
  by_cases h : y = k
  · subst h; rw [beq_self_eq_true, if_pos rfl]
  · rw [beq_eq_false_iff_ne.mpr h, if_neg h]
theorem metL_none {f : Nat → Bool} {i : Nat} (h : ∀ k, k < i → f k = false) : metL f i = [] := by
  unfold metL
  rw [List.filter_eq_nil_iff.mpr (fun k hk => by rw [h k (List.mem_range.mp hk)]; exact Bool.false_ne_true)]; rfl
theorem metL_one {f : Nat → Bool} : ∀ {i k0 : Nat}, k0 < i → (∀ k, k < i → (f k = true ↔ k = k0)) → metL f i = [0 + (k0 : Int)]
  | 0, _, h, _ => absurd h (Nat.not_lt_zero _)
  | i + 1, k0, h, hf => by
    by_cases e : k0 = i
    · subst e
      rw [metL_yes ((hf k0 h).mpr rfl), metL_none (fun k hk => by
        cases q : f k with
        | false => rfl
        | true => have := (hf k (by omega)).mp q; omega)]; rfl
    · have hi : f i = false := by
        cases q : f i with
        | false => rfl
        | true => have := (hf i (by omega)).mp q; omega
      rw [metL_no hi]
      exact metL_one (by omega) fun k hk => hf k (by omega)
end
section
set_option linter.unusedVariables false
set_option maxRecDepth 100000
set_option maxHeartbeats 4000000
theorem re1 {α : Type} {Dd Dh Dl Dp Ds I c1 c10 c2 c3 c4 c5 c6 c7 c8 c9 : α} {t : List α} : ∀ p ∈ Dp :: c1 :: c2 :: c3 :: c4 :: c5 :: c6 :: c7 :: c8 :: c9 :: c10 :: (I :: Dl :: Ds :: Dd :: Dh :: t), p ∈ I :: Dl :: Ds :: Dd :: Dp :: Dh :: c1 :: c2 :: c3 :: c4 :: c5 :: c6 :: c7 :: c8 :: c9 :: c10 :: t := List.forall_mem_cons.mpr ⟨.tail _ (.tail _ (.tail _ (.tail _ (.head _)))), List.forall_mem_cons.mpr ⟨.tail _ (.tail _ (.tail _ (.tail _ (.tail _ (.tail _ (.head _)))))), List.forall_mem_cons.mpr ⟨.tail _ (.tail _ (.tail _ (.tail _ (.tail _ (.tail _ (.tail _ (.head _))))))), List.forall_mem_cons.mpr ⟨.tail _ (.tail _ (.tail _ (.tail _ (.tail _ (.tail _ (.tail _ (.tail _ (.head _)))))))), List.forall_mem_cons.mpr ⟨.tail _ (.tail _ (.tail _ (.tail _ (.tail _ (.tail _ (.tail _ (.tail _ (.tail _ (.head _))))))))), List.forall_mem_cons.mpr ⟨.tail _ (.tail _ (.tail _ (.tail _ (.tail _ (.tail _ (.tail _ (.tail _ (.tail _ (.tail _ (.head _)))))))))), List.forall_mem_cons.mpr ⟨.tail _ (.tail _ (.tail _ (.tail _ (.tail _ (.tail _ (.tail _ (.tail _ (.tail _ (.tail _ (.tail _ (.head _))))))))))), List.forall_mem_cons.mpr ⟨.tail _ (.tail _ (.tail _ (.tail _ (.tail _ (.tail _ (.tail _ (.tail _ (.tail _ (.tail _ (.tail _ (.tail _ (.head _)))))))))))), List.forall_mem_cons.mpr ⟨.tail _ (.tail _ (.tail _ (.tail _ (.tail _ (.tail _ (.tail _ (.tail _ (.tail _ (.tail _ (.tail _ (.tail _ (.tail _ (.head _))))))))))))), List.forall_mem_cons.mpr ⟨.tail _ (.tail _ (.tail _ (.tail _ (.tail _ (.tail _ (.tail _ (.tail _ (.tail _ (.tail _ (.tail _ (.tail _ (.tail _ (.tail _ (.head _)))))))))))))), List.forall_mem_cons.mpr ⟨.tail _ (.tail _ (.tail _ (.tail _ (.tail _ (.tail _ (.tail _ (.tail _ (.tail _ (.tail _ (.tail _ (.tail _ (.tail _ (.tail _ (.tail _ (.head _))))))))))))))), List.forall_mem_cons.mpr ⟨.head _, List.forall_mem_cons.mpr ⟨.tail _ (.head _), List.forall_mem_cons.mpr ⟨.tail _ (.tail _ (.head _)), List.forall_mem_cons.mpr ⟨.tail _ (.tail _ (.tail _ (.head _))), List.forall_mem_cons.mpr ⟨.tail _ (.tail _ (.tail _ (.tail _ (.tail _ (.head _))))), fun p hp => .tail _ (.tail _ (.tail _ (.tail _ (.tail _ (.tail _ (.tail _ (.tail _ (.tail _ (.tail _ (.tail _ (.tail _ (.tail _ (.tail _ (.tail _ (.tail _ (hp))))))))))))))))⟩⟩⟩⟩⟩⟩⟩⟩⟩⟩⟩⟩⟩⟩⟩⟩
theorem re2 {α : Type} {D Dd Dh Dl Dp Ds I c1 c10 c2 c3 c4 c5 c6 c7 c8 c9 : α} {w t : List α} : ∀ p ∈ D :: Dd :: c1 :: c2 :: c3 :: c4 :: c5 :: c6 :: c7 :: c8 :: c9 :: c10 :: (w ++ (I :: Dl :: Ds :: Dp :: Dh :: t)), p ∈ D :: Dp :: c1 :: c2 :: c3 :: c4 :: c5 :: c6 :: c7 :: c8 :: c9 :: c10 :: (w ++ (I :: Dl :: Ds :: Dd :: Dh :: t)) := List.forall_mem_cons.mpr ⟨.head _, List.forall_mem_cons.mpr ⟨.tail _ (.tail _ (.tail _ (.tail _ (.tail _ (.tail _ (.tail _ (.tail _ (.tail _ (.tail _ (.tail _ (.tail _ (List.mem_append_right _ (.tail _ (.tail _ (.tail _ (.head _)))))))))))))))), List.forall_mem_cons.mpr ⟨.tail _ (.tail _ (.head _)), List.forall_mem_cons.mpr ⟨.tail _ (.tail _ (.tail _ (.head _))), List.forall_mem_cons.mpr ⟨.tail _ (.tail _ (.tail _ (.tail _ (.head _)))), List.forall_mem_cons.mpr ⟨.tail _ (.tail _ (.tail _ (.tail _ (.tail _ (.head _))))), List.forall_mem_cons.mpr ⟨.tail _ (.tail _ (.tail _ (.tail _ (.tail _ (.tail _ (.head _)))))), List.forall_mem_cons.mpr ⟨.tail _ (.tail _ (.tail _ (.tail _ (.tail _ (.tail _ (.tail _ (.head _))))))), List.forall_mem_cons.mpr ⟨.tail _ (.tail _ (.tail _ (.tail _ (.tail _ (.tail _ (.tail _ (.tail _ (.head _)))))))), List.forall_mem_cons.mpr ⟨.tail _ (.tail _ (.tail _ (.tail _ (.tail _ (.tail _ (.tail _ (.tail _ (.tail _ (.head _))))))))), List.forall_mem_cons.mpr ⟨.tail _ (.tail _ (.tail _ (.tail _ (.tail _ (.tail _ (.tail _ (.tail _ (.tail _ (.tail _ (.head _)))))))))), List.forall_mem_cons.mpr ⟨.tail _ (.tail _ (.tail _ (.tail _ (.tail _ (.tail _ (.tail _ (.tail _ (.tail _ (.tail _ (.tail _ (.head _))))))))))), fun p hp => (List.mem_append.mp hp).elim (fun hp => .tail _ (.tail _ (.tail _ (.tail _ (.tail _ (.tail _ (.tail _ (.tail _ (.tail _ (.tail _ (.tail _ (.tail _ (List.mem_append_left _ hp))))))))))))) (fun hp => (show ∀ p ∈ I :: Dl :: Ds :: Dp :: Dh :: t, p ∈ D :: Dp :: c1 :: c2 :: c3 :: c4 :: c5 :: c6 :: c7 :: c8 :: c9 :: c10 :: (w ++ (I :: Dl :: Ds :: Dd :: Dh :: t)) from List.forall_mem_cons.mpr ⟨.tail _ (.tail _ (.tail _ (.tail _ (.tail _ (.tail _ (.tail _ (.tail _ (.tail _ (.tail _ (.tail _ (.tail _ (List.mem_append_right _ (.head _))))))))))))), List.forall_mem_cons.mpr ⟨.tail _ (.tail _ (.tail _ (.tail _ (.tail _ (.tail _ (.tail _ (.tail _ (.tail _ (.tail _ (.tail _ (.tail _ (List.mem_append_right _ (.tail _ (.head _)))))))))))))), List.forall_mem_cons.mpr ⟨.tail _ (.tail _ (.tail _ (.tail _ (.tail _ (.tail _ (.tail _ (.tail _ (.tail _ (.tail _ (.tail _ (.tail _ (List.mem_append_right _ (.tail _ (.tail _ (.head _))))))))))))))), List.forall_mem_cons.mpr ⟨.tail _ (.head _), List.forall_mem_cons.mpr ⟨.tail _ (.tail _ (.tail _ (.tail _ (.tail _ (.tail _ (.tail _ (.tail _ (.tail _ (.tail _ (.tail _ (.tail _ (List.mem_append_right _ (.tail _ (.tail _ (.tail _ (.tail _ (.head _))))))))))))))))), fun p hp => .tail _ (.tail _ (.tail _ (.tail _ (.tail _ (.tail _ (.tail _ (.tail _ (.tail _ (.tail _ (.tail _ (.tail _ (List.mem_append_right _ (.tail _ (.tail _ (.tail _ (.tail _ (.tail _ (hp))))))))))))))))))⟩⟩⟩⟩⟩) p hp)⟩⟩⟩⟩⟩⟩⟩⟩⟩⟩⟩⟩
theorem re3 {α : Type} {D Dd Dh Dl Dp Ds I c1 c10 c2 c3 c4 c5 c6 c7 c8 c9 : α} {w t : List α} : ∀ p ∈ Dl :: c1 :: c2 :: c3 :: c4 :: c5 :: c6 :: c7 :: c8 :: c9 :: c10 :: (w ++ (I :: D :: Ds :: Dd :: Dp :: Dh :: t)), p ∈ D :: Dd :: c1 :: c2 :: c3 :: c4 :: c5 :: c6 :: c7 :: c8 :: c9 :: c10 :: (w ++ (I :: Dl :: Ds :: Dp :: Dh :: t)) := List.forall_mem_cons.mpr ⟨.tail _ (.tail _ (.tail _ (.tail _ (.tail _ (.tail _ (.tail _ (.tail _ (.tail _ (.tail _ (.tail _ (.tail _ (List.mem_append_right _ (.tail _ (.head _)))))))))))))), List.forall_mem_cons.mpr ⟨.tail _ (.tail _ (.head _)), List.forall_mem_cons.mpr ⟨.tail _ (.tail _ (.tail _ (.head _))), List.forall_mem_cons.mpr ⟨.tail _ (.tail _ (.tail _ (.tail _ (.head _)))), List.forall_mem_cons.mpr ⟨.tail _ (.tail _ (.tail _ (.tail _ (.tail _ (.head _))))), List.forall_mem_cons.mpr ⟨.tail _ (.tail _ (.tail _ (.tail _ (.tail _ (.tail _ (.head _)))))), List.forall_mem_cons.mpr ⟨.tail _ (.tail _ (.tail _ (.tail _ (.tail _ (.tail _ (.tail _ (.head _))))))), List.forall_mem_cons.mpr ⟨.tail _ (.tail _ (.tail _ (.tail _ (.tail _ (.tail _ (.tail _ (.tail _ (.head _)))))))), List.forall_mem_cons.mpr ⟨.tail _ (.tail _ (.tail _ (.tail _ (.tail _ (.tail _ (.tail _ (.tail _ (.tail _ (.head _))))))))), List.forall_mem_cons.mpr ⟨.tail _ (.tail _ (.tail _ (.tail _ (.tail _ (.tail _ (.tail _ (.tail _ (.tail _ (.tail _ (.head _)))))))))), List.forall_mem_cons.mpr ⟨.tail _ (.tail _ (.tail _ (.tail _ (.tail _ (.tail _ (.tail _ (.tail _ (.tail _ (.tail _ (.tail _ (.head _))))))))))), fun p hp => (List.mem_append.mp hp).elim (fun hp => .tail _ (.tail _ (.tail _ (.tail _ (.tail _ (.tail _ (.tail _ (.tail _ (.tail _ (.tail _ (.tail _ (.tail _ (List.mem_append_left _ hp))))))))))))) (fun hp => (show ∀ p ∈ I :: D :: Ds :: Dd :: Dp :: Dh :: t, p ∈ D :: Dd :: c1 :: c2 :: c3 :: c4 :: c5 :: c6 :: c7 :: c8 :: c9 :: c10 :: (w ++ (I :: Dl :: Ds :: Dp :: Dh :: t)) from List.forall_mem_cons.mpr ⟨.tail _ (.tail _ (.tail _ (.tail _ (.tail _ (.tail _ (.tail _ (.tail _ (.tail _ (.tail _ (.tail _ (.tail _ (List.mem_append_right _ (.head _))))))))))))), List.forall_mem_cons.mpr ⟨.head _, List.forall_mem_cons.mpr ⟨.tail _ (.tail _ (.tail _ (.tail _ (.tail _ (.tail _ (.tail _ (.tail _ (.tail _ (.tail _ (.tail _ (.tail _ (List.mem_append_right _ (.tail _ (.tail _ (.head _))))))))))))))), List.forall_mem_cons.mpr ⟨.tail _ (.head _), List.forall_mem_cons.mpr ⟨.tail _ (.tail _ (.tail _ (.tail _ (.tail _ (.tail _ (.tail _ (.tail _ (.tail _ (.tail _ (.tail _ (.tail _ (List.mem_append_right _ (.tail _ (.tail _ (.tail _ (.head _)))))))))))))))), List.forall_mem_cons.mpr ⟨.tail _ (.tail _ (.tail _ (.tail _ (.tail _ (.tail _ (.tail _ (.tail _ (.tail _ (.tail _ (.tail _ (.tail _ (List.mem_append_right _ (.tail _ (.tail _ (.tail _ (.tail _ (.head _))))))))))))))))), fun p hp => .tail _ (.tail _ (.tail _ (.tail _ (.tail _ (.tail _ (.tail _ (.tail _ (.tail _ (.tail _ (.tail _ (.tail _ (List.mem_append_right _ (.tail _ (.tail _ (.tail _ (.tail _ (.tail _ (hp))))))))))))))))))⟩⟩⟩⟩⟩⟩) p hp)⟩⟩⟩⟩⟩⟩⟩⟩⟩⟩⟩
theorem re4 {α : Type} {D Dd Dh Dl Dp Dq Ds I c1 c10 c2 c3 c4 c5 c6 c7 c8 c9 : α} {w t : List α} : ∀ p ∈ Dq :: c1 :: c2 :: c3 :: c4 :: c5 :: c6 :: c7 :: c8 :: c9 :: c10 :: (I :: Dl :: D :: Ds :: Dd :: Dp :: Dh :: (w ++ t)), p ∈ Dq :: Dl :: c1 :: c2 :: c3 :: c4 :: c5 :: c6 :: c7 :: c8 :: c9 :: c10 :: (w ++ (I :: D :: Ds :: Dd :: Dp :: Dh :: t)) := List.forall_mem_cons.mpr ⟨.head _, List.forall_mem_cons.mpr ⟨.tail _ (.tail _ (.head _)), List.forall_mem_cons.mpr ⟨.tail _ (.tail _ (.tail _ (.head _))), List.forall_mem_cons.mpr ⟨.tail _ (.tail _ (.tail _ (.tail _ (.head _)))), List.forall_mem_cons.mpr ⟨.tail _ (.tail _ (.tail _ (.tail _ (.tail _ (.head _))))), List.forall_mem_cons.mpr ⟨.tail _ (.tail _ (.tail _ (.tail _ (.tail _ (.tail _ (.head _)))))), List.forall_mem_cons.mpr ⟨.tail _ (.tail _ (.tail _ (.tail _ (.tail _ (.tail _ (.tail _ (.head _))))))), List.forall_mem_cons.mpr ⟨.tail _ (.tail _ (.tail _ (.tail _ (.tail _ (.tail _ (.tail _ (.tail _ (.head _)))))))), List.forall_mem_cons.mpr ⟨.tail _ (.tail _ (.tail _ (.tail _ (.tail _ (.tail _ (.tail _ (.tail _ (.tail _ (.head _))))))))), List.forall_mem_cons.mpr ⟨.tail _ (.tail _ (.tail _ (.tail _ (.tail _ (.tail _ (.tail _ (.tail _ (.tail _ (.tail _ (.head _)))))))))), List.forall_mem_cons.mpr ⟨.tail _ (.tail _ (.tail _ (.tail _ (.tail _ (.tail _ (.tail _ (.tail _ (.tail _ (.tail _ (.tail _ (.head _))))))))))), List.forall_mem_cons.mpr ⟨.tail _ (.tail _ (.tail _ (.tail _ (.tail _ (.tail _ (.tail _ (.tail _ (.tail _ (.tail _ (.tail _ (.tail _ (List.mem_append_right _ (.head _))))))))))))), List.forall_mem_cons.mpr ⟨.tail _ (.head _), List.forall_mem_cons.mpr ⟨.tail _ (.tail _ (.tail _ (.tail _ (.tail _ (.tail _ (.tail _ (.tail _ (.tail _ (.tail _ (.tail _ (.tail _ (List.mem_append_right _ (.tail _ (.head _)))))))))))))), List.forall_mem_cons.mpr ⟨.tail _ (.tail _ (.tail _ (.tail _ (.tail _ (.tail _ (.tail _ (.tail _ (.tail _ (.tail _ (.tail _ (.tail _ (List.mem_append_right _ (.tail _ (.tail _ (.head _))))))))))))))), List.forall_mem_cons.mpr ⟨.tail _ (.tail _ (.tail _ (.tail _ (.tail _ (.tail _ (.tail _ (.tail _ (.tail _ (.tail _ (.tail _ (.tail _ (List.mem_append_right _ (.tail _ (.tail _ (.tail _ (.head _)))))))))))))))), List.forall_mem_cons.mpr ⟨.tail _ (.tail _ (.tail _ (.tail _ (.tail _ (.tail _ (.tail _ (.tail _ (.tail _ (.tail _ (.tail _ (.tail _ (List.mem_append_right _ (.tail _ (.tail _ (.tail _ (.tail _ (.head _))))))))))))))))), List.forall_mem_cons.mpr ⟨.tail _ (.tail _ (.tail _ (.tail _ (.tail _ (.tail _ (.tail _ (.tail _ (.tail _ (.tail _ (.tail _ (.tail _ (List.mem_append_right _ (.tail _ (.tail _ (.tail _ (.tail _ (.tail _ (.head _)))))))))))))))))), fun p hp => (List.mem_append.mp hp).elim (fun hp => .tail _ (.tail _ (.tail _ (.tail _ (.tail _ (.tail _ (.tail _ (.tail _ (.tail _ (.tail _ (.tail _ (.tail _ (List.mem_append_left _ hp))))))))))))) (fun hp => (show ∀ p ∈ t, p ∈ Dq :: Dl :: c1 :: c2 :: c3 :: c4 :: c5 :: c6 :: c7 :: c8 :: c9 :: c10 :: (w ++ (I :: D :: Ds :: Dd :: Dp :: Dh :: t)) from fun p hp => .tail _ (.tail _ (.tail _ (.tail _ (.tail _ (.tail _ (.tail _ (.tail _ (.tail _ (.tail _ (.tail _ (.tail _ (List.mem_append_right _ (.tail _ (.tail _ (.tail _ (.tail _ (.tail _ (.tail _ (hp)))))))))))))))))))) p hp)⟩⟩⟩⟩⟩⟩⟩⟩⟩⟩⟩⟩⟩⟩⟩⟩⟩⟩
theorem reb {α : Type} {D Dd Dh Dl Dm Dp Dq Ds I c1 c10 c2 c3 c4 c5 c6 c7 c8 c9 : α} {w t : List α} : ∀ p ∈ Dl :: Ds :: Dd :: Dp :: Dh :: c1 :: c2 :: c3 :: c4 :: c5 :: c6 :: c7 :: c8 :: c9 :: c10 :: Dm :: (w ++ t), p ∈ Dm :: Dq :: c1 :: c2 :: c3 :: c4 :: c5 :: c6 :: c7 :: c8 :: c9 :: c10 :: (I :: Dl :: D :: Ds :: Dd :: Dp :: Dh :: (w ++ t)) := List.forall_mem_cons.mpr ⟨.tail _ (.tail _ (.tail _ (.tail _ (.tail _ (.tail _ (.tail _ (.tail _ (.tail _ (.tail _ (.tail _ (.tail _ (.tail _ (.head _))))))))))))), List.forall_mem_cons.mpr ⟨.tail _ (.tail _ (.tail _ (.tail _ (.tail _ (.tail _ (.tail _ (.tail _ (.tail _ (.tail _ (.tail _ (.tail _ (.tail _ (.tail _ (.tail _ (.head _))))))))))))))), List.forall_mem_cons.mpr ⟨.tail _ (.tail _ (.tail _ (.tail _ (.tail _ (.tail _ (.tail _ (.tail _ (.tail _ (.tail _ (.tail _ (.tail _ (.tail _ (.tail _ (.tail _ (.tail _ (.head _)))))))))))))))), List.forall_mem_cons.mpr ⟨.tail _ (.tail _ (.tail _ (.tail _ (.tail _ (.tail _ (.tail _ (.tail _ (.tail _ (.tail _ (.tail _ (.tail _ (.tail _ (.tail _ (.tail _ (.tail _ (.tail _ (.head _))))))))))))))))), List.forall_mem_cons.mpr ⟨.tail _ (.tail _ (.tail _ (.tail _ (.tail _ (.tail _ (.tail _ (.tail _ (.tail _ (.tail _ (.tail _ (.tail _ (.tail _ (.tail _ (.tail _ (.tail _ (.tail _ (.tail _ (.head _)))))))))))))))))), List.forall_mem_cons.mpr ⟨.tail _ (.tail _ (.head _)), List.forall_mem_cons.mpr ⟨.tail _ (.tail _ (.tail _ (.head _))), List.forall_mem_cons.mpr ⟨.tail _ (.tail _ (.tail _ (.tail _ (.head _)))), List.forall_mem_cons.mpr ⟨.tail _ (.tail _ (.tail _ (.tail _ (.tail _ (.head _))))), List.forall_mem_cons.mpr ⟨.tail _ (.tail _ (.tail _ (.tail _ (.tail _ (.tail _ (.head _)))))), List.forall_mem_cons.mpr ⟨.tail _ (.tail _ (.tail _ (.tail _ (.tail _ (.tail _ (.tail _ (.head _))))))), List.forall_mem_cons.mpr ⟨.tail _ (.tail _ (.tail _ (.tail _ (.tail _ (.tail _ (.tail _ (.tail _ (.head _)))))))), List.forall_mem_cons.mpr ⟨.tail _ (.tail _ (.tail _ (.tail _ (.tail _ (.tail _ (.tail _ (.tail _ (.tail _ (.head _))))))))), List.forall_mem_cons.mpr ⟨.tail _ (.tail _ (.tail _ (.tail _ (.tail _ (.tail _ (.tail _ (.tail _ (.tail _ (.tail _ (.head _)))))))))), List.forall_mem_cons.mpr ⟨.tail _ (.tail _ (.tail _ (.tail _ (.tail _ (.tail _ (.tail _ (.tail _ (.tail _ (.tail _ (.tail _ (.head _))))))))))), List.forall_mem_cons.mpr ⟨.head _, fun p hp => (List.mem_append.mp hp).elim (fun hp => .tail _ (.tail _ (.tail _ (.tail _ (.tail _ (.tail _ (.tail _ (.tail _ (.tail _ (.tail _ (.tail _ (.tail _ (.tail _ (.tail _ (.tail _ (.tail _ (.tail _ (.tail _ (.tail _ (List.mem_append_left _ hp)))))))))))))))))))) (fun hp => (show ∀ p ∈ t, p ∈ Dm :: Dq :: c1 :: c2 :: c3 :: c4 :: c5 :: c6 :: c7 :: c8 :: c9 :: c10 :: (I :: Dl :: D :: Ds :: Dd :: Dp :: Dh :: (w ++ t)) from fun p hp => .tail _ (.tail _ (.tail _ (.tail _ (.tail _ (.tail _ (.tail _ (.tail _ (.tail _ (.tail _ (.tail _ (.tail _ (.tail _ (.tail _ (.tail _ (.tail _ (.tail _ (.tail _ (.tail _ (List.mem_append_right _ (hp))))))))))))))))))))) p hp)⟩⟩⟩⟩⟩⟩⟩⟩⟩⟩⟩⟩⟩⟩⟩⟩
theorem re5 {α : Type} {D Dd Dh Dl Dp Ds I c1 c10 c2 c3 c4 c5 c6 c7 c8 c9 : α} {w t : List α} : ∀ p ∈ Dl :: Ds :: Dd :: Dh :: c1 :: c2 :: c3 :: c4 :: c5 :: c6 :: c7 :: c8 :: c9 :: c10 :: (w ++ (I :: D :: Dp :: t)), p ∈ c1 :: c2 :: c3 :: c4 :: c5 :: c6 :: c7 :: c8 :: c9 :: c10 :: (I :: Dl :: D :: Ds :: Dd :: Dp :: Dh :: (w ++ t)) := List.forall_mem_cons.mpr ⟨.tail _ (.tail _ (.tail _ (.tail _ (.tail _ (.tail _ (.tail _ (.tail _ (.tail _ (.tail _ (.tail _ (.head _))))))))))), List.forall_mem_cons.mpr ⟨.tail _ (.tail _ (.tail _ (.tail _ (.tail _ (.tail _ (.tail _ (.tail _ (.tail _ (.tail _ (.tail _ (.tail _ (.tail _ (.head _))))))))))))), List.forall_mem_cons.mpr ⟨.tail _ (.tail _ (.tail _ (.tail _ (.tail _ (.tail _ (.tail _ (.tail _ (.tail _ (.tail _ (.tail _ (.tail _ (.tail _ (.tail _ (.head _)))))))))))))), List.forall_mem_cons.mpr ⟨.tail _ (.tail _ (.tail _ (.tail _ (.tail _ (.tail _ (.tail _ (.tail _ (.tail _ (.tail _ (.tail _ (.tail _ (.tail _ (.tail _ (.tail _ (.tail _ (.head _)))))))))))))))), List.forall_mem_cons.mpr ⟨.head _, List.forall_mem_cons.mpr ⟨.tail _ (.head _), List.forall_mem_cons.mpr ⟨.tail _ (.tail _ (.head _)), List.forall_mem_cons.mpr ⟨.tail _ (.tail _ (.tail _ (.head _))), List.forall_mem_cons.mpr ⟨.tail _ (.tail _ (.tail _ (.tail _ (.head _)))), List.forall_mem_cons.mpr ⟨.tail _ (.tail _ (.tail _ (.tail _ (.tail _ (.head _))))), List.forall_mem_cons.mpr ⟨.tail _ (.tail _ (.tail _ (.tail _ (.tail _ (.tail _ (.head _)))))), List.forall_mem_cons.mpr ⟨.tail _ (.tail _ (.tail _ (.tail _ (.tail _ (.tail _ (.tail _ (.head _))))))), List.forall_mem_cons.mpr ⟨.tail _ (.tail _ (.tail _ (.tail _ (.tail _ (.tail _ (.tail _ (.tail _ (.head _)))))))), List.forall_mem_cons.mpr ⟨.tail _ (.tail _ (.tail _ (.tail _ (.tail _ (.tail _ (.tail _ (.tail _ (.tail _ (.head _))))))))), fun p hp => (List.mem_append.mp hp).elim (fun hp => .tail _ (.tail _ (.tail _ (.tail _ (.tail _ (.tail _ (.tail _ (.tail _ (.tail _ (.tail _ (.tail _ (.tail _ (.tail _ (.tail _ (.tail _ (.tail _ (.tail _ (List.mem_append_left _ hp)))))))))))))))))) (fun hp => (show ∀ p ∈ I :: D :: Dp :: t, p ∈ c1 :: c2 :: c3 :: c4 :: c5 :: c6 :: c7 :: c8 :: c9 :: c10 :: (I :: Dl :: D :: Ds :: Dd :: Dp :: Dh :: (w ++ t)) from List.forall_mem_cons.mpr ⟨.tail _ (.tail _ (.tail _ (.tail _ (.tail _ (.tail _ (.tail _ (.tail _ (.tail _ (.tail _ (.head _)))))))))), List.forall_mem_cons.mpr ⟨.tail _ (.tail _ (.tail _ (.tail _ (.tail _ (.tail _ (.tail _ (.tail _ (.tail _ (.tail _ (.tail _ (.tail _ (.head _)))))))))))), List.forall_mem_cons.mpr ⟨.tail _ (.tail _ (.tail _ (.tail _ (.tail _ (.tail _ (.tail _ (.tail _ (.tail _ (.tail _ (.tail _ (.tail _ (.tail _ (.tail _ (.tail _ (.head _))))))))))))))), fun p hp => .tail _ (.tail _ (.tail _ (.tail _ (.tail _ (.tail _ (.tail _ (.tail _ (.tail _ (.tail _ (.tail _ (.tail _ (.tail _ (.tail _ (.tail _ (.tail _ (.tail _ (List.mem_append_right _ (hp))))))))))))))))))⟩⟩⟩) p hp)⟩⟩⟩⟩⟩⟩⟩⟩⟩⟩⟩⟩⟩⟩
theorem re6 {α : Type} {D Dd Dh Dl Dp Ds I Tn c1 c10 c2 c3 c4 c5 c6 c7 c8 c9 : α} {w t : List α} : ∀ p ∈ Dp :: D :: c1 :: c2 :: c3 :: c4 :: c5 :: c6 :: c7 :: c8 :: c9 :: c10 :: (I :: Tn :: Dl :: Ds :: Dd :: Dh :: (w ++ t)), p ∈ Tn :: Dl :: Ds :: Dd :: Dh :: c1 :: c2 :: c3 :: c4 :: c5 :: c6 :: c7 :: c8 :: c9 :: c10 :: (w ++ (I :: D :: Dp :: t)) := List.forall_mem_cons.mpr ⟨.tail _ (.tail _ (.tail _ (.tail _ (.tail _ (.tail _ (.tail _ (.tail _ (.tail _ (.tail _ (.tail _ (.tail _ (.tail _ (.tail _ (.tail _ (List.mem_append_right _ (.tail _ (.tail _ (.head _)))))))))))))))))), List.forall_mem_cons.mpr ⟨.tail _ (.tail _ (.tail _ (.tail _ (.tail _ (.tail _ (.tail _ (.tail _ (.tail _ (.tail _ (.tail _ (.tail _ (.tail _ (.tail _ (.tail _ (List.mem_append_right _ (.tail _ (.head _))))))))))))))))), List.forall_mem_cons.mpr ⟨.tail _ (.tail _ (.tail _ (.tail _ (.tail _ (.head _))))), List.forall_mem_cons.mpr ⟨.tail _ (.tail _ (.tail _ (.tail _ (.tail _ (.tail _ (.head _)))))), List.forall_mem_cons.mpr ⟨.tail _ (.tail _ (.tail _ (.tail _ (.tail _ (.tail _ (.tail _ (.head _))))))), List.forall_mem_cons.mpr ⟨.tail _ (.tail _ (.tail _ (.tail _ (.tail _ (.tail _ (.tail _ (.tail _ (.head _)))))))), List.forall_mem_cons.mpr ⟨.tail _ (.tail _ (.tail _ (.tail _ (.tail _ (.tail _ (.tail _ (.tail _ (.tail _ (.head _))))))))), List.forall_mem_cons.mpr ⟨.tail _ (.tail _ (.tail _ (.tail _ (.tail _ (.tail _ (.tail _ (.tail _ (.tail _ (.tail _ (.head _)))))))))), List.forall_mem_cons.mpr ⟨.tail _ (.tail _ (.tail _ (.tail _ (.tail _ (.tail _ (.tail _ (.tail _ (.tail _ (.tail _ (.tail _ (.head _))))))))))), List.forall_mem_cons.mpr ⟨.tail _ (.tail _ (.tail _ (.tail _ (.tail _ (.tail _ (.tail _ (.tail _ (.tail _ (.tail _ (.tail _ (.tail _ (.head _)))))))))))), List.forall_mem_cons.mpr ⟨.tail _ (.tail _ (.tail _ (.tail _ (.tail _ (.tail _ (.tail _ (.tail _ (.tail _ (.tail _ (.tail _ (.tail _ (.tail _ (.head _))))))))))))), List.forall_mem_cons.mpr ⟨.tail _ (.tail _ (.tail _ (.tail _ (.tail _ (.tail _ (.tail _ (.tail _ (.tail _ (.tail _ (.tail _ (.tail _ (.tail _ (.tail _ (.head _)))))))))))))), List.forall_mem_cons.mpr ⟨.tail _ (.tail _ (.tail _ (.tail _ (.tail _ (.tail _ (.tail _ (.tail _ (.tail _ (.tail _ (.tail _ (.tail _ (.tail _ (.tail _ (.tail _ (List.mem_append_right _ (.head _)))))))))))))))), List.forall_mem_cons.mpr ⟨.head _, List.forall_mem_cons.mpr ⟨.tail _ (.head _), List.forall_mem_cons.mpr ⟨.tail _ (.tail _ (.head _)), List.forall_mem_cons.mpr ⟨.tail _ (.tail _ (.tail _ (.head _))), List.forall_mem_cons.mpr ⟨.tail _ (.tail _ (.tail _ (.tail _ (.head _)))), fun p hp => (List.mem_append.mp hp).elim (fun hp => .tail _ (.tail _ (.tail _ (.tail _ (.tail _ (.tail _ (.tail _ (.tail _ (.tail _ (.tail _ (.tail _ (.tail _ (.tail _ (.tail _ (.tail _ (List.mem_append_left _ hp)))))))))))))))) (fun hp => (show ∀ p ∈ t, p ∈ Tn :: Dl :: Ds :: Dd :: Dh :: c1 :: c2 :: c3 :: c4 :: c5 :: c6 :: c7 :: c8 :: c9 :: c10 :: (w ++ (I :: D :: Dp :: t)) from fun p hp => .tail _ (.tail _ (.tail _ (.tail _ (.tail _ (.tail _ (.tail _ (.tail _ (.tail _ (.tail _ (.tail _ (.tail _ (.tail _ (.tail _ (.tail _ (List.mem_append_right _ (.tail _ (.tail _ (.tail _ (hp)))))))))))))))))))) p hp)⟩⟩⟩⟩⟩⟩⟩⟩⟩⟩⟩⟩⟩⟩⟩⟩⟩⟩
theorem re7 {α : Type} {D Dd Df Dh Dl Dp Ds I Tn c1 c10 c2 c3 c4 c5 c6 c7 c8 c9 : α} {w t : List α} : ∀ p ∈ Tn :: Df :: c1 :: c2 :: c3 :: c4 :: c5 :: c6 :: c7 :: c8 :: c9 :: c10 :: (I :: Dl :: Ds :: Dd :: Dh :: (w ++ t)), p ∈ Df :: Dp :: D :: c1 :: c2 :: c3 :: c4 :: c5 :: c6 :: c7 :: c8 :: c9 :: c10 :: (I :: Tn :: Dl :: Ds :: Dd :: Dh :: (w ++ t)) := List.forall_mem_cons.mpr ⟨.tail _ (.tail _ (.tail _ (.tail _ (.tail _ (.tail _ (.tail _ (.tail _ (.tail _ (.tail _ (.tail _ (.tail _ (.tail _ (.tail _ (.head _)))))))))))))), List.forall_mem_cons.mpr ⟨.head _, List.forall_mem_cons.mpr ⟨.tail _ (.tail _ (.tail _ (.head _))), List.forall_mem_cons.mpr ⟨.tail _ (.tail _ (.tail _ (.tail _ (.head _)))), List.forall_mem_cons.mpr ⟨.tail _ (.tail _ (.tail _ (.tail _ (.tail _ (.head _))))), List.forall_mem_cons.mpr ⟨.tail _ (.tail _ (.tail _ (.tail _ (.tail _ (.tail _ (.head _)))))), List.forall_mem_cons.mpr ⟨.tail _ (.tail _ (.tail _ (.tail _ (.tail _ (.tail _ (.tail _ (.head _))))))), List.forall_mem_cons.mpr ⟨.tail _ (.tail _ (.tail _ (.tail _ (.tail _ (.tail _ (.tail _ (.tail _ (.head _)))))))), List.forall_mem_cons.mpr ⟨.tail _ (.tail _ (.tail _ (.tail _ (.tail _ (.tail _ (.tail _ (.tail _ (.tail _ (.head _))))))))), List.forall_mem_cons.mpr ⟨.tail _ (.tail _ (.tail _ (.tail _ (.tail _ (.tail _ (.tail _ (.tail _ (.tail _ (.tail _ (.head _)))))))))), List.forall_mem_cons.mpr ⟨.tail _ (.tail _ (.tail _ (.tail _ (.tail _ (.tail _ (.tail _ (.tail _ (.tail _ (.tail _ (.tail _ (.head _))))))))))), List.forall_mem_cons.mpr ⟨.tail _ (.tail _ (.tail _ (.tail _ (.tail _ (.tail _ (.tail _ (.tail _ (.tail _ (.tail _ (.tail _ (.tail _ (.head _)))))))))))), List.forall_mem_cons.mpr ⟨.tail _ (.tail _ (.tail _ (.tail _ (.tail _ (.tail _ (.tail _ (.tail _ (.tail _ (.tail _ (.tail _ (.tail _ (.tail _ (.head _))))))))))))), List.forall_mem_cons.mpr ⟨.tail _ (.tail _ (.tail _ (.tail _ (.tail _ (.tail _ (.tail _ (.tail _ (.tail _ (.tail _ (.tail _ (.tail _ (.tail _ (.tail _ (.tail _ (.head _))))))))))))))), List.forall_mem_cons.mpr ⟨.tail _ (.tail _ (.tail _ (.tail _ (.tail _ (.tail _ (.tail _ (.tail _ (.tail _ (.tail _ (.tail _ (.tail _ (.tail _ (.tail _ (.tail _ (.tail _ (.head _)))))))))))))))), List.forall_mem_cons.mpr ⟨.tail _ (.tail _ (.tail _ (.tail _ (.tail _ (.tail _ (.tail _ (.tail _ (.tail _ (.tail _ (.tail _ (.tail _ (.tail _ (.tail _ (.tail _ (.tail _ (.tail _ (.head _))))))))))))))))), List.forall_mem_cons.mpr ⟨.tail _ (.tail _ (.tail _ (.tail _ (.tail _ (.tail _ (.tail _ (.tail _ (.tail _ (.tail _ (.tail _ (.tail _ (.tail _ (.tail _ (.tail _ (.tail _ (.tail _ (.tail _ (.head _)))))))))))))))))), fun p hp => (List.mem_append.mp hp).elim (fun hp => .tail _ (.tail _ (.tail _ (.tail _ (.tail _ (.tail _ (.tail _ (.tail _ (.tail _ (.tail _ (.tail _ (.tail _ (.tail _ (.tail _ (.tail _ (.tail _ (.tail _ (.tail _ (.tail _ (List.mem_append_left _ hp)))))))))))))))))))) (fun hp => (show ∀ p ∈ t, p ∈ Df :: Dp :: D :: c1 :: c2 :: c3 :: c4 :: c5 :: c6 :: c7 :: c8 :: c9 :: c10 :: (I :: Tn :: Dl :: Ds :: Dd :: Dh :: (w ++ t)) from fun p hp => .tail _ (.tail _ (.tail _ (.tail _ (.tail _ (.tail _ (.tail _ (.tail _ (.tail _ (.tail _ (.tail _ (.tail _ (.tail _ (.tail _ (.tail _ (.tail _ (.tail _ (.tail _ (.tail _ (List.mem_append_right _ (hp))))))))))))))))))))) p hp)⟩⟩⟩⟩⟩⟩⟩⟩⟩⟩⟩⟩⟩⟩⟩⟩⟩
theorem re8 {α : Type} {Dd Dh Dl Dq Ds I c1 c10 c2 c3 c4 c5 c6 c7 c8 c9 : α} {w t : List α} : ∀ p ∈ Dd :: c1 :: c2 :: c3 :: c4 :: c5 :: c6 :: c7 :: c8 :: c9 :: c10 :: (Dq :: I :: Dl :: Ds :: Dh :: (w ++ t)), p ∈ Dq :: c1 :: c2 :: c3 :: c4 :: c5 :: c6 :: c7 :: c8 :: c9 :: c10 :: (I :: Dl :: Ds :: Dd :: Dh :: (w ++ t)) := List.forall_mem_cons.mpr ⟨.tail _ (.tail _ (.tail _ (.tail _ (.tail _ (.tail _ (.tail _ (.tail _ (.tail _ (.tail _ (.tail _ (.tail _ (.tail _ (.tail _ (.head _)))))))))))))), List.forall_mem_cons.mpr ⟨.tail _ (.head _), List.forall_mem_cons.mpr ⟨.tail _ (.tail _ (.head _)), List.forall_mem_cons.mpr ⟨.tail _ (.tail _ (.tail _ (.head _))), List.forall_mem_cons.mpr ⟨.tail _ (.tail _ (.tail _ (.tail _ (.head _)))), List.forall_mem_cons.mpr ⟨.tail _ (.tail _ (.tail _ (.tail _ (.tail _ (.head _))))), List.forall_mem_cons.mpr ⟨.tail _ (.tail _ (.tail _ (.tail _ (.tail _ (.tail _ (.head _)))))), List.forall_mem_cons.mpr ⟨.tail _ (.tail _ (.tail _ (.tail _ (.tail _ (.tail _ (.tail _ (.head _))))))), List.forall_mem_cons.mpr ⟨.tail _ (.tail _ (.tail _ (.tail _ (.tail _ (.tail _ (.tail _ (.tail _ (.head _)))))))), List.forall_mem_cons.mpr ⟨.tail _ (.tail _ (.tail _ (.tail _ (.tail _ (.tail _ (.tail _ (.tail _ (.tail _ (.head _))))))))), List.forall_mem_cons.mpr ⟨.tail _ (.tail _ (.tail _ (.tail _ (.tail _ (.tail _ (.tail _ (.tail _ (.tail _ (.tail _ (.head _)))))))))), List.forall_mem_cons.mpr ⟨.head _, List.forall_mem_cons.mpr ⟨.tail _ (.tail _ (.tail _ (.tail _ (.tail _ (.tail _ (.tail _ (.tail _ (.tail _ (.tail _ (.tail _ (.head _))))))))))), List.forall_mem_cons.mpr ⟨.tail _ (.tail _ (.tail _ (.tail _ (.tail _ (.tail _ (.tail _ (.tail _ (.tail _ (.tail _ (.tail _ (.tail _ (.head _)))))))))))), List.forall_mem_cons.mpr ⟨.tail _ (.tail _ (.tail _ (.tail _ (.tail _ (.tail _ (.tail _ (.tail _ (.tail _ (.tail _ (.tail _ (.tail _ (.tail _ (.head _))))))))))))), List.forall_mem_cons.mpr ⟨.tail _ (.tail _ (.tail _ (.tail _ (.tail _ (.tail _ (.tail _ (.tail _ (.tail _ (.tail _ (.tail _ (.tail _ (.tail _ (.tail _ (.tail _ (.head _))))))))))))))), fun p hp => (List.mem_append.mp hp).elim (fun hp => .tail _ (.tail _ (.tail _ (.tail _ (.tail _ (.tail _ (.tail _ (.tail _ (.tail _ (.tail _ (.tail _ (.tail _ (.tail _ (.tail _ (.tail _ (.tail _ (List.mem_append_left _ hp))))))))))))))))) (fun hp => (show ∀ p ∈ t, p ∈ Dq :: c1 :: c2 :: c3 :: c4 :: c5 :: c6 :: c7 :: c8 :: c9 :: c10 :: (I :: Dl :: Ds :: Dd :: Dh :: (w ++ t)) from fun p hp => .tail _ (.tail _ (.tail _ (.tail _ (.tail _ (.tail _ (.tail _ (.tail _ (.tail _ (.tail _ (.tail _ (.tail _ (.tail _ (.tail _ (.tail _ (.tail _ (List.mem_append_right _ (hp)))))))))))))))))) p hp)⟩⟩⟩⟩⟩⟩⟩⟩⟩⟩⟩⟩⟩⟩⟩⟩
theorem ree {α : Type} {Dd De Dh Dl Dq Ds I c1 c10 c2 c3 c4 c5 c6 c7 c8 c9 : α} {w t : List α} : ∀ p ∈ I :: Dl :: Ds :: De :: Dq :: Dh :: c1 :: c2 :: c3 :: c4 :: c5 :: c6 :: c7 :: c8 :: c9 :: c10 :: Dd :: (w ++ t), p ∈ De :: Dd :: c1 :: c2 :: c3 :: c4 :: c5 :: c6 :: c7 :: c8 :: c9 :: c10 :: (Dq :: I :: Dl :: Ds :: Dh :: (w ++ t)) := List.forall_mem_cons.mpr ⟨.tail _ (.tail _ (.tail _ (.tail _ (.tail _ (.tail _ (.tail _ (.tail _ (.tail _ (.tail _ (.tail _ (.tail _ (.tail _ (.head _))))))))))))), List.forall_mem_cons.mpr ⟨.tail _ (.tail _ (.tail _ (.tail _ (.tail _ (.tail _ (.tail _ (.tail _ (.tail _ (.tail _ (.tail _ (.tail _ (.tail _ (.tail _ (.head _)))))))))))))), List.forall_mem_cons.mpr ⟨.tail _ (.tail _ (.tail _ (.tail _ (.tail _ (.tail _ (.tail _ (.tail _ (.tail _ (.tail _ (.tail _ (.tail _ (.tail _ (.tail _ (.tail _ (.head _))))))))))))))), List.forall_mem_cons.mpr ⟨.head _, List.forall_mem_cons.mpr ⟨.tail _ (.tail _ (.tail _ (.tail _ (.tail _ (.tail _ (.tail _ (.tail _ (.tail _ (.tail _ (.tail _ (.tail _ (.head _)))))))))))), List.forall_mem_cons.mpr ⟨.tail _ (.tail _ (.tail _ (.tail _ (.tail _ (.tail _ (.tail _ (.tail _ (.tail _ (.tail _ (.tail _ (.tail _ (.tail _ (.tail _ (.tail _ (.tail _ (.head _)))))))))))))))), List.forall_mem_cons.mpr ⟨.tail _ (.tail _ (.head _)), List.forall_mem_cons.mpr ⟨.tail _ (.tail _ (.tail _ (.head _))), List.forall_mem_cons.mpr ⟨.tail _ (.tail _ (.tail _ (.tail _ (.head _)))), List.forall_mem_cons.mpr ⟨.tail _ (.tail _ (.tail _ (.tail _ (.tail _ (.head _))))), List.forall_mem_cons.mpr ⟨.tail _ (.tail _ (.tail _ (.tail _ (.tail _ (.tail _ (.head _)))))), List.forall_mem_cons.mpr ⟨.tail _ (.tail _ (.tail _ (.tail _ (.tail _ (.tail _ (.tail _ (.head _))))))), List.forall_mem_cons.mpr ⟨.tail _ (.tail _ (.tail _ (.tail _ (.tail _ (.tail _ (.tail _ (.tail _ (.head _)))))))), List.forall_mem_cons.mpr ⟨.tail _ (.tail _ (.tail _ (.tail _ (.tail _ (.tail _ (.tail _ (.tail _ (.tail _ (.head _))))))))), List.forall_mem_cons.mpr ⟨.tail _ (.tail _ (.tail _ (.tail _ (.tail _ (.tail _ (.tail _ (.tail _ (.tail _ (.tail _ (.head _)))))))))), List.forall_mem_cons.mpr ⟨.tail _ (.tail _ (.tail _ (.tail _ (.tail _ (.tail _ (.tail _ (.tail _ (.tail _ (.tail _ (.tail _ (.head _))))))))))), List.forall_mem_cons.mpr ⟨.tail _ (.head _), fun p hp => (List.mem_append.mp hp).elim (fun hp => .tail _ (.tail _ (.tail _ (.tail _ (.tail _ (.tail _ (.tail _ (.tail _ (.tail _ (.tail _ (.tail _ (.tail _ (.tail _ (.tail _ (.tail _ (.tail _ (.tail _ (List.mem_append_left _ hp)))))))))))))))))) (fun hp => (show ∀ p ∈ t, p ∈ De :: Dd :: c1 :: c2 :: c3 :: c4 :: c5 :: c6 :: c7 :: c8 :: c9 :: c10 :: (Dq :: I :: Dl :: Ds :: Dh :: (w ++ t)) from fun p hp => .tail _ (.tail _ (.tail _ (.tail _ (.tail _ (.tail _ (.tail _ (.tail _ (.tail _ (.tail _ (.tail _ (.tail _ (.tail _ (.tail _ (.tail _ (.tail _ (.tail _ (List.mem_append_right _ (hp))))))))))))))))))) p hp)⟩⟩⟩⟩⟩⟩⟩⟩⟩⟩⟩⟩⟩⟩⟩⟩⟩
theorem turn_law {w : World} {p : Program} {loose : List PySem.Str} {mean : ExcName → Option Value} {mg mb : PySem.Str → Option Value} (dp un : Nat) (gd : Option (List Code)) (a : Addr) (ccd : Value) (outer : List Env) (A₀ : Around) (base h₀ : Heap) (L : Addr) (s : Shared) (Dl Ds Dh : Addr) (vh : List Value) (hs : List Int) (c1 c6 c8 c9 c10 : Obj) (CL : List Int) (Tm k0 : Nat) (pl : Plan CL Tm k0) (tt : Tok) (m₀ : PySem.Str → Option Value) (i : Nat) (ti : Tok) (st : LSt) (I : Addr) (oI : Obj) (QR : Value → Shared → Prop) (E : Value → Shared → Prop)
    (B : Below A₀ base outer h₀) (X : (K w.params).In h₀) (T : Top p loose mean mg mb h₀) (hd : dp + 100 < recursionLimit) (hu : un + 400 < cLine) (d6 : c6.data = .cell (some (.ref Dl))) (d8 : c8.data = .cell (some (.int CL.sum tt))) (d10 : c10.data = .cell (some (.ref Dh))) (hvh : IntsAre vh hs) (hhs : hs.length = 4)
    (ht1 : 1 ≤ CL.sum) (ht8 : CL.sum ≤ 8) (gDh : @Ne Nat (L + 1 + 1 + 1 + 1 + 1 + 1 + 1 + 1 + 1 + 1) Dh ∧ @Ne Nat (L + 1 + 1 + 1 + 1 + 1 + 1 + 1 + 1 + 1) Dh ∧ @Ne Nat (L + 1 + 1 + 1 + 1 + 1 + 1 + 1 + 1) Dh ∧ @Ne Nat (L + 1 + 1 + 1 + 1 + 1 + 1 + 1) Dh ∧ @Ne Nat (L + 1 + 1 + 1 + 1 + 1 + 1) Dh ∧ @Ne Nat (L + 1 + 1 + 1 + 1 + 1) Dh ∧ @Ne Nat (L + 1 + 1 + 1 + 1) Dh ∧ @Ne Nat (L + 1 + 1 + 1) Dh ∧ @Ne Nat (L + 1 + 1) Dh ∧ @Ne Nat (L + 1) Dh) (gDl : @LT.lt Nat _ (L + 1 + 1 + 1 + 1 + 1 + 1 + 1 + 1 + 1 + 1) Dl) (gDs : @LT.lt Nat _ Dl Ds) (gh : @LT.lt Nat _ Dh Dl) (hi24 : i < 24) (inv : LInv w.params L Dl Ds CL Tm i st)
    (F : Fr h₀ L s.heap (fun y => if y = .ofString "turn" then some (.int (0 + (i : Int)) ti) else ovr (lOv Ds st) m₀ y)) (hne : ∀ p ∈ lNW L Dl Ds Dh vh c1 c6 c8 c9 c10 st, p.1 ≠ I) (N : News h₀ L s.heap ((I, oI) :: lNW L Dl Ds Dh vh c1 c6 c8 c9 c10 st)) :
    wpAny (model pw w) (ktrTop dp un gd (.ofString "law") lawScope L a ccd (cellsFrom (L + 1) lawScope.names []) outer) (execs turnBody (envOfC (.ofString "law") lawScope L a ccd)) (TurnT h₀ L (.ofString "turn") [(I, oI)] I (fun a => ovr (lOv Ds a) m₀) (lNW L Dl Ds Dh vh c1 c6 c8 c9 c10) (fun a _ => LInv w.params L Dl Ds CL Tm (i + 1) a) s QR (BrkS h₀ L (.ofString "turn") (fun a => ovr (lOv Ds a) m₀) (lNW L Dl Ds Dh vh c1 c6 c8 c9 c10) (LDn w.params L Ds CL Tm k0) s)) E s := by
  obtain ⟨Dd, Dp, nl, ns, nd, np, os, sts, vd, vp, xs, c2, c3, c4, c5, c7, rest, tail⟩ := st
  obtain ⟨hiT, ol, sl, ho, hst, vpI, xsI, vdI, d7, ⟨v2, d2⟩, ⟨v3, d3⟩, ⟨v4, d4⟩, ⟨v5, d5⟩, tlg, ndg, npg, rs⟩ := inv
  simp only [lNW] at N hne
  dsimp only at ol sl ho hst vpI xsI vdI d7 d2 d3 d4 d5 tlg ndg npg rs
  have tp := pl.tn i hiT
  have hI : ∀ p : Addr × Obj, p ∈ _ → @Ne Nat p.1 I := hne
  have hneT : ∀ q ∈ tail, q.1 ≠ I := fun q hq => hne q (by repeat (first | exact hq | apply List.mem_cons_of_mem))
  simp only [List.forall_mem_cons] at hI
  clear hne
  have hIc : @Ne Nat (L + 1 + 1 + 1 + 1 + 1 + 1 + 1 + 1 + 1 + 1) I ∧ @Ne Nat (L + 1 + 1 + 1 + 1 + 1 + 1 + 1 + 1 + 1) I ∧ @Ne Nat (L + 1 + 1 + 1 + 1 + 1 + 1 + 1 + 1) I ∧ @Ne Nat (L + 1 + 1 + 1 + 1 + 1 + 1 + 1) I ∧ @Ne Nat (L + 1 + 1 + 1 + 1 + 1 + 1) I ∧ @Ne Nat (L + 1 + 1 + 1 + 1 + 1) I ∧ @Ne Nat (L + 1 + 1 + 1 + 1) I ∧ @Ne Nat (L + 1 + 1 + 1) I ∧ @Ne Nat (L + 1 + 1) I ∧ @Ne Nat (L + 1) I := ⟨hI.2.2.2.2.2.1, hI.2.2.2.2.2.2.1, hI.2.2.2.2.2.2.2.1, hI.2.2.2.2.2.2.2.2.1, hI.2.2.2.2.2.2.2.2.2.1, hI.2.2.2.2.2.2.2.2.2.2.1, hI.2.2.2.2.2.2.2.2.2.2.2.1, hI.2.2.2.2.2.2.2.2.2.2.2.2.1, hI.2.2.2.2.2.2.2.2.2.2.2.2.2.1, hI.2.2.2.2.2.2.2.2.2.2.2.2.2.2.1⟩
  have hIDl : @Ne Nat Dl I := hI.1
  have hIDs : @Ne Nat Ds I := hI.2.1
  have hIDd : @Ne Nat Dd I := hI.2.2.1
  have hIDh : @Ne Nat Dh I := hI.2.2.2.2.1
  clear hI
  have gDs2 : @LT.lt Nat _ (L + 1 + 1 + 1 + 1 + 1 + 1 + 1 + 1 + 1 + 1) Ds := Nat.lt_trans gDl gDs
  have gtl : ∀ q ∈ tail, @LT.lt Nat _ (L + 1 + 1 + 1 + 1 + 1 + 1 + 1 + 1 + 1 + 1) q.1 := fun q hq => (tlg q hq).1
  generalize hM1 : (fun y => if y = PySem.Str.ofString "turn" then some (Value.int (0 + (i : Int)) ti) else ovr (lOv Ds ⟨Dd, Dp, nl, ns, nd, np, os, sts, vd, vp, xs, c2, c3, c4, c5, c7, rest, tail⟩) m₀ y) = M1 at F
  have m1t : M1 (.ofString "turn") = some (.int (0 + (i : Int)) ti) := by rw [← hM1]; exact if_pos rfl
  have m1d : M1 (.ofString "due") = some (.ref Dd) := by
    rw [← hM1]
    show (if _ then _ else _) = _
    rw [if_neg (by decide)]; unfold lOv; rw [ovr_cons, if_pos rfl]
  have m1s : M1 (.ofString "states") = some (.ref Ds) := by
    rw [← hM1]
    show (if _ then _ else _) = _
    rw [if_neg (by decide)]; unfold lOv; rw [ovr_cons, if_neg (by decide), ovr_cons, if_pos rfl]
  refine turn1 dp un gd a ccd outer A₀ base h₀ L s c1 c2 c3 c4 c5 c6 c7 c8 c9 c10 M1 ((I, oI) :: (Dl, W.listOf (os.map fun o => Value.ref o.I).toArray nl) :: (Ds, W.listOf (sts.map fun e => Value.ref e.1).toArray ns) :: (Dd, W.listOf vd.toArray nd) :: (Dh, W.listOf vh.toArray 4) :: tail) Dp vp np xs (sizesAt CL i) v3 v4 _ _ B F X (news_sub N re1) T hd hu d7 d4 d3 vpI xsI tp.s8 tp.l8 (tp.line ht8) npg.1 (List.forall_mem_cons.mpr ⟨Ne.symm (hIc.2.2.2.1), List.forall_mem_cons.mpr ⟨gtne gDl (by omega), List.forall_mem_cons.mpr ⟨gtne gDs2 (by omega), List.forall_mem_cons.mpr ⟨gtne ndg.1 (by omega), List.forall_mem_cons.mpr ⟨Ne.symm (gDh.2.2.2.1), gt_ne gtl (by omega)⟩⟩⟩⟩⟩) (List.forall_mem_cons.mpr ⟨Ne.symm (hIc.2.2.1), List.forall_mem_cons.mpr ⟨gtne gDl (by omega), List.forall_mem_cons.mpr ⟨gtne gDs2 (by omega), List.forall_mem_cons.mpr ⟨gtne ndg.1 (by omega), List.forall_mem_cons.mpr ⟨Ne.symm (gDh.2.2.1), gt_ne gtl (by omega)⟩⟩⟩⟩⟩) ?_
  intro o D zs x t c3' c4' h1 tk1 hxl hio hrun hzs e4 e3 hlo hDn hDpD hoffD F1 N1
  clear N F
  have hno : (o.cs, o.b) = normS (leadS (sizesAt CL i)) := (norm_run hrun).symm
  obtain ⟨hn1, hn2⟩ := Prod.mk.inj (hno.trans tp.no)
  have up : ∀ (n : PySem.Str) (v : Value), n ≠ .ofString "line" → M1 n = some v → (upd M1 (.ofString "line") (.str x t)) n = some v := fun n v h e => by rw [upd_ne h]; exact e
  have hPo : ∀ q ∈ wsLed w.params o, @LT.lt Nat _ (L + 1 + 1 + 1 + 1 + 1 + 1 + 1 + 1 + 1 + 1) q.1 := fun q hq => ws_above (P := w.params) (n := L + 1 + 1 + 1 + 1 + 1 + 1 + 1 + 1 + 1 + 1) (tail := []) hlo (b := (L + 1 + 1 + 1 + 1 + 1 + 1 + 1 + 1 + 1 + 1, c1)) (by k_mem) rfl (fun _ h => nomatch h) q (List.mem_append_left _ hq)
  refine turn2 dp un gd a ccd outer A₀ base h₀ L _ c1 c2 c3' c4' c5 c6 c7 c8 c9 c10 (upd M1 (.ofString "line") (.str x t)) ((I, oI) :: (Dl, W.listOf (os.map fun o => Value.ref o.I).toArray nl) :: (Ds, W.listOf (sts.map fun e => Value.ref e.1).toArray ns) :: (Dp, W.listOf vp.toArray np) :: (Dh, W.listOf vh.toArray 4) :: tail) D Dd zs vd nd (sizesAt CL i) (dueS (sizesAt CL i)) (lastI (dueS (sizesAt CL i))) o _ _ B F1 X (news_sub N1 re2) T hd hu (up _ _ (by decide) m1d) e4 e3 hzs vdI hio tp.dperm tp.dsort tp.dlast tp.db (by have := tp.last8; omega) tp.l8 hn1 hn2 ?_
  intro h2 tk2 F2 N2
  clear N1 F1
  have hios : ∀ q ∈ os, IntsAre q.its q.cs := fun q hq => by
    obtain ⟨k, hk⟩ := List.mem_iff_getElem?.mp hq
    exact (ho k q hk).1
  have hosm : ∀ q ∈ os, ∀ p ∈ wsLed w.params q, p ∈ tail := fun q hq => by
    obtain ⟨k, hk⟩ := List.mem_iff_getElem?.mp hq
    exact (ho k q hk).2.2
  have hosm3 : ∀ q ∈ os, ∀ p ∈ wsLed w.params q, p ∈ ((I, oI) :: (D, W.listOf zs.toArray zs.length) :: (Ds, W.listOf (sts.map fun e => Value.ref e.1).toArray ns) :: (Dd, W.listOf vd.toArray nd) :: (Dp, W.listOf vp.toArray np) :: (Dh, W.listOf vh.toArray 4) :: tail) := fun q hq p hp => by
    have := hosm q hq p hp
    repeat (first | exact this | apply List.mem_cons_of_mem)
  refine turn3 dp un gd a ccd outer A₀ base h₀ L _ c1 c2 c3' c4' c5 c6 c7 c8 c9 c10 (upd M1 (.ofString "line") (.str x t)) ((I, oI) :: (D, W.listOf zs.toArray zs.length) :: (Ds, W.listOf (sts.map fun e => Value.ref e.1).toArray ns) :: (Dd, W.listOf vd.toArray nd) :: (Dp, W.listOf vp.toArray np) :: (Dh, W.listOf vh.toArray 4) :: tail) Dl (os.map fun o => Value.ref o.I) nl i ti o os v2 _ _ B F2 X (news_sub N2 re3) T hd hu (up _ _ (by decide) m1t) d6 e4 d2 rfl ol hi24 hio hios hosm3 hPo (List.forall_mem_cons.mpr ⟨Ne.symm (hIc.2.1), List.forall_mem_cons.mpr ⟨Ne.symm (hDn.2.1), List.forall_mem_cons.mpr ⟨gtne gDs2 (by omega), List.forall_mem_cons.mpr ⟨gtne ndg.1 (by omega), List.forall_mem_cons.mpr ⟨Ne.symm (npg.1.2.1), List.forall_mem_cons.mpr ⟨Ne.symm (gDh.2.1), gt_ne gtl (by omega)⟩⟩⟩⟩⟩⟩) ⟨by omega, by omega, by omega, by omega, by omega, by omega, by omega, by omega, by omega, by omega⟩ ?_
  intro Dq c2' h3 tk3 e2 hDqn hDlq hoffq F3 N3
  clear N2 F2
  have hbs : ((os.map fun q => decide (q.cs = o.cs ∧ q.b = o.b)).map Value.bool) = os.map fun q => Value.bool (decide (q.cs = o.cs ∧ q.b = o.b)) := by rw [List.map_map]; rfl
  rw [← hbs] at N3
  have hbl : (os.map fun q => decide (q.cs = o.cs ∧ q.b = o.b)).length = i := by rw [List.length_map]; exact ol
  have hbk : ∀ k, k < i → ((os.map fun q => decide (q.cs = o.cs ∧ q.b = o.b)).getD k false = true ↔ normS (leadS (sizesAt CL k)) = normS (leadS (sizesAt CL i))) := fun k hk => by
    have hko : k < os.length := by omega
    have hq : os[k]? = some os[k] := List.getElem?_eq_getElem hko
    have h1 := (ho k _ hq).2.1
    rw [List.getD_eq_getElem?_getD, List.getElem?_map, hq, ← h1, ← hno]
    show decide _ = true ↔ _
    rw [decide_eq_true_eq, Prod.mk.injEq]
  have hlt : i < Tm → metL (fun k => (os.map fun q => decide (q.cs = o.cs ∧ q.b = o.b)).getD k false) i = [] := fun hT => metL_none fun k hk => by
    cases q : (os.map fun q => decide (q.cs = o.cs ∧ q.b = o.b)).getD k false with
    | false => rfl
    | true => exact absurd ((hbk k hk).mp q) (pl.ne i hT k hk)
  have heq : i = Tm → metL (fun k => (os.map fun q => decide (q.cs = o.cs ∧ q.b = o.b)).getD k false) i = [0 + (k0 : Int)] := fun hT => metL_one (by rw [hT]; exact pl.k0T) fun k hk => (hbk k hk).trans (by subst hT; exact pl.eq k hk)
  have hoffW : ∀ q ∈ (wsLed w.params o ++ tail), q.1 ≠ L + 1 + 1 + 1 + 1 + 1 + 1 := ws_ne (P := w.params) (tail := tail) hlo (b := (L + 1 + 1 + 1 + 1 + 1 + 1, c5)) (by k_mem) rfl (gt_ne gtl (by omega))
  refine turn4 dp un gd a ccd outer A₀ base h₀ L _ c1 c2' c3' c4' c5 c6 c7 c8 c9 c10 (upd M1 (.ofString "line") (.str x t)) ((I, oI) :: (Dl, W.listOf (os.map fun o => Value.ref o.I).toArray nl) :: (D, W.listOf zs.toArray zs.length) :: (Ds, W.listOf (sts.map fun e => Value.ref e.1).toArray ns) :: (Dd, W.listOf vd.toArray nd) :: (Dp, W.listOf vp.toArray np) :: (Dh, W.listOf vh.toArray 4) :: (wsLed w.params o ++ tail)) Dq (os.map fun q => decide (q.cs = o.cs ∧ q.b = o.b)) i ti v5 _ _ B F3 X (news_sub N3 re4) T hd hu (up _ _ (by decide) m1t) e2 d5 hbl hi24 (List.forall_mem_cons.mpr ⟨Ne.symm (hIc.2.2.2.2.1), List.forall_mem_cons.mpr ⟨gtne gDl (by omega), List.forall_mem_cons.mpr ⟨Ne.symm (hDn.2.2.2.2.1), List.forall_mem_cons.mpr ⟨gtne gDs2 (by omega), List.forall_mem_cons.mpr ⟨gtne ndg.1 (by omega), List.forall_mem_cons.mpr ⟨Ne.symm (npg.1.2.2.2.2.1), List.forall_mem_cons.mpr ⟨Ne.symm (gDh.2.2.2.2.1), hoffW⟩⟩⟩⟩⟩⟩⟩) hDqn ?brk ?hcase ?_
  case hcase =>
    rcases Nat.lt_or_ge i Tm with h | h
    · exact .inl (hlt h)
    · exact .inr ⟨k0, heq (by omega)⟩
  case brk =>
    intro k1 D' t' c5' h4 tk4 hm e5 hD'n hoff' F4 N4
    have hiTm : i = Tm := by
      rcases Nat.lt_or_ge i Tm with h | h
      · rw [hlt h] at hm; cases hm
      · omega
    have hk1 : (0 + (k1 : Int)) = 0 + (k0 : Int) := by
      have := heq hiTm
      rw [hm] at this
      exact (List.cons.inj this).1
    rw [hk1] at N4
    subst hiTm
    refine brk_end (σ := LSt) ⟨Dd, Dp, nl, ns, nd, np, os, sts, vd, vp, xs, c2', c3', c4', c5', c7, (.ofString "line", .str x t) :: rest, (D', W.listOf #[Value.int (0 + (k0 : Int)) t'] 1) :: (wsLed w.params o ++ tail)⟩ ?dn F4 ?mp ?nn
    case nn =>
      simp only [lNW]
      exact news_sub N4 reb
    case mp =>
      intro z hz
      show (upd M1 (.ofString "line") (.str x t)) z = ovr (lOv _ _) _ z
      unfold lOv
      dsimp only
      rw [ovr_cons, ovr_cons, ovr_cons]
      by_cases hl : z = .ofString "line"
      · subst hl
        rw [upd_at, if_neg (by decide), if_neg (by decide), if_pos rfl]
      · rw [upd_ne hl, if_neg hl, ← hM1]
        show (if _ then _ else _) = _
        rw [if_neg hz]
        unfold lOv
        rw [ovr_cons, ovr_cons]
    case dn =>
      exact ⟨sl, fun k e he => ⟨.tail _ (List.mem_append_right _ (hst k e he).1), (hst k e he).2⟩, vdI,
        List.forall_mem_cons.mpr ⟨Ne.symm hD'n.1, fun q hq => ws_ne (P := w.params) (tail := tail) hlo (b := (L + 1 + 1 + 1 + 1 + 1 + 1 + 1 + 1 + 1 + 1, c1)) (by k_mem) rfl (gt_ne gtl (by omega)) q hq⟩,
        ⟨o, D', t', x, t, rest, rfl, hxl, hio, hno, fun p hp => .tail _ (List.mem_append_left _ hp), e4, e5, .head _, hD'n.1⟩⟩
  intro c5' v5' h4 tk4 hm e5 F4 N4
  have hiT2 : i < Tm := by
    rcases Nat.lt_or_ge i Tm with h | h
    · exact h
    · rw [heq (by omega)] at hm; cases hm
  clear N3 F3 hbk hlt heq
  have hdl := tp.dlen
  have hdl1 := tp.l1
  have hdl8 := tp.l8
  have hcol : lvl o.cs o.b o.nt = 4 * (CL.sum + (dueS (sizesAt CL i)).length) + 3 := by
    have h := tp.lv
    unfold runS at h
    rw [hrun] at h
    exact h
  have hcl : o.cs.length ≤ 300 := by
    rw [hn1, normC_len]
    have := tp.last8
    omega
  have hloS := hlo (Ds, W.listOf (sts.map fun e => Value.ref e.1).toArray ns) (by k_mem)
  have hoffDl : @Ne Nat D Dl := Ne.symm (hoffD _ (List.mem_append_right _ (.tail _ (.head _))))
  have hoffDs : @Ne Nat D Ds := Ne.symm (hoffD _ (List.mem_append_right _ (.tail _ (.tail _ (.head _)))))
  refine turn5 dp un gd a ccd outer A₀ base h₀ L _ c1 c2' c3' c4' c5' c6 c7 c8 c9 c10 (upd M1 (.ofString "line") (.str x t)) ((I, oI) :: (D, W.listOf zs.toArray zs.length) :: (Dp, W.listOf vp.toArray np) :: tail) Dl Ds Dd Dh (os.map fun o => Value.ref o.I) (sts.map fun e => Value.ref e.1) vd vh nl ns nd (dueS (sizesAt CL i)) hs i ti tt o CL.sum _ _ B F4 X (news_sub N4 re5) T hd hu (up _ _ (by decide) m1d) (up _ _ (by decide) m1s) (up _ _ (by decide) m1t) d6 e4 d8 d10 (by rw [List.length_map]; exact ol) (by rw [List.length_map]; exact sl) hi24 vdI hvh hhs hio hcl hcol (by omega) (by omega) ht1 ht8 gDl gDs gh ndg.2 ⟨hloS.2.2.2, hloS.2.2.1, hloS.2.1, hloS.1⟩
    (List.forall_mem_cons.mpr ⟨Ne.symm hIDl, List.forall_mem_cons.mpr ⟨hoffDl, List.forall_mem_cons.mpr ⟨npg.2.1, fun q hq => (tlg q hq).2.1⟩⟩⟩) (List.forall_mem_cons.mpr ⟨Ne.symm hIDs, List.forall_mem_cons.mpr ⟨hoffDs, List.forall_mem_cons.mpr ⟨npg.2.2, fun q hq => (tlg q hq).2.2⟩⟩⟩) ?_
  intro Tn y nm u1 u2 tc h5 tk5 htk5 hnm hy hTn F5 N5
  clear N4 F4
  refine turn6 dp un gd a ccd outer A₀ base h₀ L _ c1 c2' c3' c4' c5' c6 c7 c8 c9 c10 (upd (upd (upd M1 (.ofString "line") (.str x t)) (.ofString "column") (.int (lvl o.cs o.b o.nt) tc)) (.ofString "new") (.ref Tn)) ((I, oI) :: (Tn, { cls := .type "tuple", data := .seq #[.str y u1, .str y u2] }) :: (Dl, W.listOf ((os.map fun o => Value.ref o.I) ++ [Value.ref o.I]).toArray (nl + 1)) :: (Ds, W.listOf ((sts.map fun e => Value.ref e.1) ++ [Value.ref Dd]).toArray (ns + 1)) :: (Dd, W.listOf vd.toArray nd) :: (Dh, W.listOf vh.toArray 4) :: (wsLed w.params o ++ tail)) Dp D vp zs np xs (sizesAt CL i) _ _ B F5 X (news_sub N5 re6) T hd hu d7 e3 vpI xsI tp.s8 tp.l8 hzs htk5 ?_
  intro Dlf ys ls h6 tk6 hys hls hyl hoffL F6 N6
  clear N5 F5
  have hs8 := tp.s8
  have hrs8 : ∀ s ∈ restS (sizesAt CL i), 0 ≤ s ∧ s ≤ 8 := fun s hs => by
    unfold restS at hs
    obtain ⟨x, hx, rfl⟩ := List.mem_map.mp hs
    have h := List.mem_filter.mp hx
    have := hs8 x h.1
    have h2 : x > 1 := by simpa using h.2
    omega
  have hok : ∀ x ∈ y :: ls, PyData.strOk x = true := fun x hx => by
    rcases List.mem_cons.mp hx with rfl | hx
    · rw [hy]; exact (pile_ok (by omega) (by omega) hnm).1
    · exact (hls.ok hrs8 x hx).1
  have hoffW4 : ∀ q ∈ (wsLed w.params o ++ tail), q.1 ≠ L + 1 + 1 + 1 + 1 := ws_ne (P := w.params) (tail := tail) hlo (b := (L + 1 + 1 + 1 + 1, c7)) (by k_mem) rfl (gt_ne gtl (by omega))
  have hTc : @LT.lt Nat _ (L + 1 + 1 + 1 + 1 + 1 + 1 + 1 + 1 + 1 + 1) Tn := hTn (L + 1 + 1 + 1 + 1 + 1 + 1 + 1 + 1 + 1 + 1, c1) (by k_mem)
  have hoL := hoffL
  simp only [List.forall_mem_cons] at hoL
  refine turn7 dp un gd a ccd outer A₀ base h₀ L _ c1 c2' c3' c4' c5' c6 c7 c8 c9 c10 (upd (upd (upd (upd M1 (.ofString "line") (.str x t)) (.ofString "column") (.int (lvl o.cs o.b o.nt) tc)) (.ofString "new") (.ref Tn)) (.ofString "left") (.ref Dlf)) ((I, oI) :: (Dl, W.listOf ((os.map fun o => Value.ref o.I) ++ [Value.ref o.I]).toArray (nl + 1)) :: (Ds, W.listOf ((sts.map fun e => Value.ref e.1) ++ [Value.ref Dd]).toArray (ns + 1)) :: (Dd, W.listOf vd.toArray nd) :: (Dh, W.listOf vh.toArray 4) :: (wsLed w.params o ++ tail)) Tn Dlf ys ys.length ls y u1 u2 _ _ _ B F6 X (news_sub N6 re7) T hd hu (by rw [upd_ne (by decide)]; exact upd_at) upd_at d7 hys hyl hok (List.forall_mem_cons.mpr ⟨Ne.symm (hIc.2.2.2.2.2.2.1), List.forall_mem_cons.mpr ⟨gtne gDl (by omega), List.forall_mem_cons.mpr ⟨gtne gDs2 (by omega), List.forall_mem_cons.mpr ⟨gtne ndg.1 (by omega), List.forall_mem_cons.mpr ⟨Ne.symm (gDh.2.2.2.2.2.2.1), hoffW4⟩⟩⟩⟩⟩) hTc ⟨hoL.2.2.1, hoL.2.2.2.1, hoL.2.2.2.2.1, hoL.2.2.2.2.2.1, hoL.2.2.2.2.2.2.1, hoL.2.2.2.2.2.2.2.1, hoL.2.2.2.2.2.2.2.2.1, hoL.2.2.2.2.2.2.2.2.2.1, hoL.2.2.2.2.2.2.2.2.2.2.1, hoL.2.2.2.2.2.2.2.2.2.2.2.1⟩ ?_
  intro Dp' np' c7' h7 tk7 e7 hDp' F7 N7
  clear N6 F6
  have u5 : ∀ (n : PySem.Str) (v : Value), n ≠ .ofString "line" → n ≠ .ofString "column" → n ≠ .ofString "new" → n ≠ .ofString "left" → M1 n = some v → (upd (upd (upd (upd M1 (.ofString "line") (.str x t)) (.ofString "column") (.int (lvl o.cs o.b o.nt) tc)) (.ofString "new") (.ref Tn)) (.ofString "left") (.ref Dlf)) n = some v := fun n v a1 a2 a3 a4 e => by rw [upd_ne a4, upd_ne a3, upd_ne a2, upd_ne a1]; exact e
  refine turn8 dp un gd a ccd outer A₀ base h₀ L _ c1 c2' c3' c4' c5' c6 c7' c8 c9 c10 (upd (upd (upd (upd M1 (.ofString "line") (.str x t)) (.ofString "column") (.int (lvl o.cs o.b o.nt) tc)) (.ofString "new") (.ref Tn)) (.ofString "left") (.ref Dlf)) ((Dp', W.listOf (Value.str y u1 :: ys).toArray np') :: (I, oI) :: (Dl, W.listOf ((os.map fun o => Value.ref o.I) ++ [Value.ref o.I]).toArray (nl + 1)) :: (Ds, W.listOf ((sts.map fun e => Value.ref e.1) ++ [Value.ref Dd]).toArray (ns + 1)) :: (Dh, W.listOf vh.toArray 4) :: (wsLed w.params o ++ tail)) Dd vd nd (dueS (sizesAt CL i)) _ _ B F7 X (news_sub N7 re8) T hd hu (u5 _ _ (by decide) (by decide) (by decide) (by decide) m1d) vdI (by omega) ?_
  intro Dd' ws n es h8 tk8 hws hes hso hDd' F8 N8
  clear N7 F7
  have hes2 : es = dueS (sizesAt CL (i + 1)) := by
    show es = dueS (stepS (sizesAt CL i))
    rw [← tp.nx]
    exact sorted_perm (hes.trans (isort_perm _).symm) hso (isort_sorted _)
  have hl1 : (os ++ [o]).map (fun o => Value.ref o.I) = (os.map fun o => Value.ref o.I) ++ [Value.ref o.I] := by rw [List.map_append]; rfl
  have hs1 : (sts ++ [(Dd, vd, nd, dueS (sizesAt CL i))]).map (fun e => Value.ref e.1) = (sts.map fun e => Value.ref e.1) ++ [Value.ref Dd] := by rw [List.map_append]; rfl
  refine turn_end (.inl rfl) (⟨Dd', Dp', nl + 1, ns + 1, n, np', os ++ [o], sts ++ [(Dd, vd, nd, dueS (sizesAt CL i))], ws, Value.str y u1 :: ys, y :: ls, c2', c3', c4', c5', c7', [(.ofString "line", .str x t), (.ofString "column", .int (lvl o.cs o.b o.nt) tc), (.ofString "new", .ref Tn), (.ofString "left", .ref Dlf)], (Dd, W.listOf vd.toArray nd) :: (wsLed w.params o ++ tail)⟩ : LSt) F8 ?nn ?ne ?mp ?iv
  case nn =>
    simp only [lNW, List.cons_append, List.nil_append]
    rw [hl1, hs1]
    exact news_sub N8 ree
  case ne =>
    have hW := ws_ne (P := w.params) (tail := tail) hlo (b := (I, oI)) (by k_mem) rfl hneT
    have hid : @LT.lt Nat _ I Dd' := hDd' (I, oI) (by k_mem)
    have hip : @LT.lt Nat _ I Dp' := hDp' (I, oI) (by k_mem)
    simp only [lNW]
    exact (List.forall_mem_cons.mpr ⟨hIDl, List.forall_mem_cons.mpr ⟨hIDs, List.forall_mem_cons.mpr ⟨Nat.ne_of_gt hid, List.forall_mem_cons.mpr ⟨Nat.ne_of_gt hip, List.forall_mem_cons.mpr ⟨hIDh, List.forall_mem_cons.mpr ⟨hIc.1, List.forall_mem_cons.mpr ⟨hIc.2.1, List.forall_mem_cons.mpr ⟨hIc.2.2.1, List.forall_mem_cons.mpr ⟨hIc.2.2.2.1, List.forall_mem_cons.mpr ⟨hIc.2.2.2.2.1, List.forall_mem_cons.mpr ⟨hIc.2.2.2.2.2.1, List.forall_mem_cons.mpr ⟨hIc.2.2.2.2.2.2.1, List.forall_mem_cons.mpr ⟨hIc.2.2.2.2.2.2.2.1, List.forall_mem_cons.mpr ⟨hIc.2.2.2.2.2.2.2.2.1, List.forall_mem_cons.mpr ⟨hIc.2.2.2.2.2.2.2.2.2, List.forall_mem_cons.mpr ⟨hIDd, hW⟩⟩⟩⟩⟩⟩⟩⟩⟩⟩⟩⟩⟩⟩⟩⟩)
  case mp =>
    refine mapL ?h1 ?h2
    case h1 =>
      intro p hp
      simp only [lOv, List.mem_cons, List.not_mem_nil, or_false] at hp
      rcases hp with rfl | rfl | rfl | rfl | rfl | rfl
      all_goals dsimp only
      · exact upd_at
      · exact (upd_ne (by decide)).trans (u5 _ _ (by decide) (by decide) (by decide) (by decide) m1s)
      · exact (upd_ne (by decide)).trans ((upd_ne (by decide)).trans ((upd_ne (by decide)).trans ((upd_ne (by decide)).trans upd_at)))
      · exact (upd_ne (by decide)).trans ((upd_ne (by decide)).trans ((upd_ne (by decide)).trans upd_at))
      · exact (upd_ne (by decide)).trans ((upd_ne (by decide)).trans upd_at)
      · exact (upd_ne (by decide)).trans upd_at
    case h2 =>
      intro z hz hq
      have q1 := hq (.ofString "due", .ref Dd') (.head _)
      have q2 := hq (.ofString "states", .ref Ds) (.tail _ (.head _))
      have q3 := hq (.ofString "line", .str x t) (.tail _ (.tail _ (.head _)))
      have q4 := hq (.ofString "column", .int (lvl o.cs o.b o.nt) tc) (.tail _ (.tail _ (.tail _ (.head _))))
      have q5 := hq (.ofString "new", .ref Tn) (.tail _ (.tail _ (.tail _ (.tail _ (.head _)))))
      have q6 := hq (.ofString "left", .ref Dlf) (.tail _ (.tail _ (.tail _ (.tail _ (.tail _ (.head _))))))
      dsimp only at q1 q2 q3 q4 q5 q6
      rw [upd_ne q1, upd_ne q6, upd_ne q5, upd_ne q4, upd_ne q3, ← hM1]
      show (if _ then _ else _) = _
      rw [if_neg hz]
      refine ovr_old fun p hp => ?_
      unfold lOv at hp
      rcases List.mem_cons.mp hp with rfl | hp
      · exact q1
      · rcases List.mem_cons.mp hp with rfl | hp
        · exact q2
        · have h := rs p hp
          intro e
          rw [← e] at h
          simp only [names4, List.mem_cons, List.not_mem_nil, or_false] at h
          rcases h with h | h | h | h
          · exact q3 h
          · exact q4 h
          · exact q5 h
          · exact q6 h
  case iv =>
    have hWl := ws_ne (P := w.params) (tail := tail) hlo (b := (Dl, W.listOf (os.map fun o => Value.ref o.I).toArray nl)) (by k_mem) rfl (fun q hq => (tlg q hq).2.1)
    have hWs := ws_ne (P := w.params) (tail := tail) hlo (b := (Ds, W.listOf (sts.map fun e => Value.ref e.1).toArray ns)) (by k_mem) rfl (fun q hq => (tlg q hq).2.2)
    have hdd1 := hDd' (L + 1 + 1 + 1 + 1 + 1 + 1 + 1 + 1 + 1 + 1, c1) (by k_mem)
    have hdd2 := hDd' (Dl, W.listOf ((os.map fun o => Value.ref o.I) ++ [Value.ref o.I]).toArray (nl + 1)) (by k_mem)
    have hdd3 := hDd' (Ds, W.listOf ((sts.map fun e => Value.ref e.1) ++ [Value.ref Dd]).toArray (ns + 1)) (by k_mem)
    have hdp2 := hDp' (Dl, W.listOf ((os.map fun o => Value.ref o.I) ++ [Value.ref o.I]).toArray (nl + 1)) (by k_mem)
    have hdp3 := hDp' (Ds, W.listOf ((sts.map fun e => Value.ref e.1) ++ [Value.ref Dd]).toArray (ns + 1)) (by k_mem)
    have hdpc := hDp'
    simp only [List.forall_mem_cons] at hdpc
    refine ⟨hiT2, ?_, ?_, ?_, ?_, .cons y u1 hys, ?_, ?_, e7, ⟨_, e2⟩, ⟨_, e3⟩, ⟨_, e4⟩, ⟨_, e5⟩, ?_, ⟨hdd1, Nat.ne_of_gt hdd2, Nat.ne_of_gt hdd3⟩, ⟨⟨Nat.ne_of_lt hdpc.2.2.1, Nat.ne_of_lt hdpc.2.2.2.1, Nat.ne_of_lt hdpc.2.2.2.2.1, Nat.ne_of_lt hdpc.2.2.2.2.2.1, Nat.ne_of_lt hdpc.2.2.2.2.2.2.1, Nat.ne_of_lt hdpc.2.2.2.2.2.2.2.1, Nat.ne_of_lt hdpc.2.2.2.2.2.2.2.2.1, Nat.ne_of_lt hdpc.2.2.2.2.2.2.2.2.2.1, Nat.ne_of_lt hdpc.2.2.2.2.2.2.2.2.2.2.1, Nat.ne_of_lt hdpc.2.2.2.2.2.2.2.2.2.2.2.1⟩, Nat.ne_of_gt hdp2, Nat.ne_of_gt hdp3⟩, ?_⟩
    · show (os ++ [o]).length = i + 1
      rw [List.length_append, List.length_singleton, ol]
    · show (sts ++ [_]).length = i + 1
      rw [List.length_append, List.length_singleton, sl]
    · intro k q hq
      rcases Nat.lt_or_ge k i with hk | hk
      · rw [List.getElem?_append_left (by omega)] at hq
        obtain ⟨a1, a2, a3⟩ := ho k q hq
        exact ⟨a1, a2, fun p hp => .tail _ (List.mem_append_right _ (a3 p hp))⟩
      · have hkl : k < (os ++ [o]).length := (List.getElem?_eq_some_iff.mp hq).1
        rw [List.length_append, List.length_singleton] at hkl
        have hki : k = i := by omega
        subst hki
        rw [List.getElem?_append_right (by omega), ol, Nat.sub_self] at hq
        cases hq
        exact ⟨hio, hno, fun p hp => .tail _ (List.mem_append_left _ hp)⟩
    · intro k q hq
      rcases Nat.lt_or_ge k i with hk | hk
      · rw [List.getElem?_append_left (by omega)] at hq
        obtain ⟨a1, a2⟩ := hst k q hq
        exact ⟨.tail _ (List.mem_append_right _ a1), a2⟩
      · have hkl : k < (sts ++ [(Dd, vd, nd, dueS (sizesAt CL i))]).length := (List.getElem?_eq_some_iff.mp hq).1
        rw [List.length_append, List.length_singleton] at hkl
        have hki : k = i := by omega
        subst hki
        rw [List.getElem?_append_right (by omega), sl, Nat.sub_self] at hq
        cases hq
        exact ⟨.head _, vdI, rfl⟩
    · show PilesAre (y :: ls) (((sizesAt CL i).length : Int) :: restS (sizesAt CL i))
      exact .cons hnm (by rw [hy, hdl]) hls
    · show IntsAre ws (dueS (sizesAt CL (i + 1)))
      rw [← hes2]; exact hws
    · refine List.forall_mem_cons.mpr ⟨⟨ndg.1, ndg.2⟩, fun q hq => ⟨?_, hWl q hq, hWs q hq⟩⟩
      rcases List.mem_append.mp hq with hq | hq
      · exact hPo q hq
      · exact gtl q hq
    · intro p hp
      simp only [List.mem_cons, List.not_mem_nil, or_false] at hp
      rcases hp with rfl | rfl | rfl | rfl <;> (dsimp only; decide)
end
section
set_option linter.unusedVariables false
set_option maxRecDepth 100000
set_option maxHeartbeats 4000000
theorem haltB1 {M : Model} {A : Around} {q1 : Pos} {q2 : Pos} {e : PySem.Expr} {r : List Stmt} {env : Env} {Q : Flow → Shared → Prop} {E : Value → Shared → Prop} {s : Shared} (h : Halt (wpAny M A (execs (Stmt.Assign [PySem.Expr.Name (PySem.Str.ofString "extras") q1] e q2 :: r) env) Q E s)) : wpAny M A (execs (Stmt.Assign [PySem.Expr.Name (PySem.Str.ofString "extras") q1] e q2 :: r) env) Q E s := h
local macro_rules | `(tactic| walk_at "execs cons") => `(tactic| (with_reducible refine haltB1 ?_))
theorem halt271 {M : Model} {A : Around} {args : List Value} {Q E : Value → Shared → Prop} {s : Shared} (h : Halt (wpAny M A (call (.ref 271) args) Q E s)) : wpAny M A (call (.ref 271) args) Q E s := h
local macro_rules | `(tactic| walk_at "call ref") => `(tactic| (k_here; refine halt271 ?_))
theorem back1 {w : World} {p : Program} {loose : List PySem.Str} {mean : ExcName → Option Value} {mg mb : PySem.Str → Option Value} (dp un : Nat) (gd : Option (List Code)) (a : Addr) (ccd : Value) (outer : List Env) (A₀ : Around) (base h₀ : Heap) (L : Addr) (s : Shared) (c1 c2 c3 c4 c5 c6 c7 c8 c9 c10 : Obj) (m : PySem.Str → Option Value) (tail : List (Addr × Obj)) (Dm Dd : Addr) (k0 b : Int) (tm tl : Tok) (nm nd : Nat) (vd : List Value) (ds : List Int) (line : PySem.Str) (o : Ws)
    (Q : Flow → Shared → Prop) (E : Value → Shared → Prop) (B : Below A₀ base outer h₀) (F : Fr h₀ L s.heap m) (X : (K w.params).In h₀) (N : News h₀ L s.heap ((Dm, W.listOf #[Value.int k0 tm] nm) :: (Dd, W.listOf vd.toArray nd) :: (L + 1 + 1 + 1 + 1 + 1 + 1 + 1 + 1 + 1 + 1, c1) :: (L + 1 + 1 + 1 + 1 + 1 + 1 + 1 + 1 + 1, c2) :: (L + 1 + 1 + 1 + 1 + 1 + 1 + 1 + 1, c3) :: (L + 1 + 1 + 1 + 1 + 1 + 1 + 1, c4) :: (L + 1 + 1 + 1 + 1 + 1 + 1, c5) :: (L + 1 + 1 + 1 + 1 + 1, c6) :: (L + 1 + 1 + 1 + 1, c7) :: (L + 1 + 1 + 1, c8) :: (L + 1 + 1, c9) :: (L + 1, c10) :: (wsLed w.params o ++ tail))) (T : Top p loose mean mg mb h₀) (hd : dp + 100 < recursionLimit) (hu : un + 400 < cLine)
    (hvdue : m (.ofString "due") = some (.ref Dd)) (hvline : m (.ofString "line") = some (.str line tl)) (d5 : c5.data = .cell (some (.ref Dm))) (d4 : c4.data = .cell (some (.ref o.I))) (hio : IntsAre o.its o.cs) (hvd : IntsAre vd ds) (hp0 : 0 < ds.length) (hd8 : ds.length ≤ 8) (hlast : ds.getLast? = some b) (hb0 : 0 ≤ b) (hb1 : b ≤ 8) (ha0 : 0 ≤ ds.getD 0 0) (ha1 : ds.getD 0 0 ≤ 8) (hll : line.length ≤ 100) (hq1 : decide (wsN (line ++ Txt.mul (.ofString " ") (4 * ds.getD 0 0 + 1) ++ .ofString "\t") = wsN (line ++ Txt.mul (.ofString " ") (4 * b + 1) ++ .ofString "\t")) = decide (ds.getD 0 0 = b)) (hq2 : (o.cs, o.b) ≠ wsN (line ++ .ofString "  "))
    (cont : ∀ h' tk', Fr h₀ L h' m → News h₀ L h' ((Dm, W.listOf #[Value.int k0 tm] nm) :: (Dd, W.listOf vd.toArray nd) :: (L + 1 + 1 + 1 + 1 + 1 + 1 + 1 + 1 + 1 + 1, c1) :: (L + 1 + 1 + 1 + 1 + 1 + 1 + 1 + 1 + 1, c2) :: (L + 1 + 1 + 1 + 1 + 1 + 1 + 1 + 1, c3) :: (L + 1 + 1 + 1 + 1 + 1 + 1 + 1, c4) :: (L + 1 + 1 + 1 + 1 + 1 + 1, c5) :: (L + 1 + 1 + 1 + 1 + 1, c6) :: (L + 1 + 1 + 1 + 1, c7) :: (L + 1 + 1 + 1, c8) :: (L + 1 + 1, c9) :: (L + 1, c10) :: (wsLed w.params o ++ tail)) → wpAny (model pw w) (ktrTop dp un gd (.ofString "law") lawScope L a ccd (cellsFrom (L + 1) lawScope.names []) outer) (execs (lawBody.drop 12) (envOfC (.ofString "law") lawScope L a ccd)) Q E { s with heap := h', toks := tk' }) :
    wpAny (model pw w) (ktrTop dp un gd (.ofString "law") lawScope L a ccd (cellsFrom (L + 1) lawScope.names []) outer) (execs (lawBody.drop 11) (envOfC (.ofString "law") lawScope L a ccd)) Q E s := by
  have N₁ := N
  simp only [wsLed, List.cons_append, List.nil_append] at N
  clear N₁
  unfold lawBody
  have hvs : ∀ p ∈ ([(.ofString "due", .ref Dd), (.ofString "line", .str line tl)] : List (PySem.Str × Value)), m p.1 = some p.2 := List.forall_mem_cons.mpr ⟨hvdue, List.forall_mem_cons.mpr ⟨hvline, List.forall_mem_nil _⟩⟩
  have F := fr_over F hvs
  refine' law_in (A := fun sc => ktrTop dp un gd (.ofString "law") sc L a ccd (cellsFrom (L + 1) sc.names []) outer) (env := fun sc => envOfC (.ofString "law") sc L a ccd) ?hs ?hb ?_
  case hs => conv => lhs; whnf
  case hb => conv => lhs; whnf
  dsimp only
  k_steps
  unfold Halt
  refine' con_apart _ _ _ _ _ _ _ _ _ _ _ _ _ _ _ _ _ _ _ _ _ _ _ _ _ _ ?kB ?kF ?kX ?kN ?kT ?kk ?kd ?ku ?hu2 ?hd2 ?hmo ?hio ?hm ?hi ?hp ?h9 ?hlast ?hb0 ?hb1 ?ha0 ?ha1 ?hll ?hq1 ?hq2 ?_
  case kB => k_asm
  case kF => k_asm
  case kX => k_asm
  case kN => k_asm
  case kT => k_asm
  case kk => rfl
  case kd => ktr_room
  case ku => ke_room
  case hu2 => first | omega | (dsimp only [ktrTop]; omega)
  case hd2 => ktr_room
  case hmo => exact ws_mem (by k_mem) (by k_mem) (by k_mem) (by k_mem)
  case hio => assumption
  case hm => k_mem
  case hi => assumption
  case hp => assumption
  case h9 => omega
  case hlast => assumption
  case hb0 => assumption
  case hb1 => assumption
  case ha0 => assumption
  case ha1 => assumption
  case hll => assumption
  case hq1 => assumption
  case hq2 => assumption
  intro h1 tk1 F1 N1
  k_steps
  unfold Halt
  rename Fr _ _ _ _ => F9
  rename News _ _ _ _ => N9
  exact cont _ _ (fr_base hvs F9) (fun p hp => N9 p hp)
end
section
set_option linter.unusedVariables false
set_option maxRecDepth 100000
set_option maxHeartbeats 4000000
local macro_rules | `(tactic| walk_at "CompSrc") => `(tactic| walk_at "mine.1")
local macro_rules | `(tactic| walk_at "CompEnd") => `(tactic| walk_at "mine.1")
local macro_rules | `(tactic| walk_at "FinE") => `(tactic| walk_at "mine.1")
theorem haltB2 {M : Model} {A : Around} {q1 : Pos} {c : PySem.Expr} {b1 : List Stmt} {b2 : List Stmt} {r : List Stmt} {env : Env} {Q : Flow → Shared → Prop} {E : Value → Shared → Prop} {s : Shared} (h : Halt (wpAny M A (execs (Stmt.If c b1 b2 q1 :: r) env) Q E s)) : wpAny M A (execs (Stmt.If c b1 b2 q1 :: r) env) Q E s := h
local macro_rules | `(tactic| walk_at "execs cons") => `(tactic| (with_reducible refine haltB2 ?_))
theorem halt276 {M : Model} {A : Around} {args : List Value} {Q E : Value → Shared → Prop} {s : Shared} (h : Halt (wpAny M A (call (.ref 276) args) Q E s)) : wpAny M A (call (.ref 276) args) Q E s := h
local macro_rules | `(tactic| walk_at "call ref") => `(tactic| (k_here; refine halt276 ?_))
theorem back2 {w : World} {p : Program} {loose : List PySem.Str} {mean : ExcName → Option Value} {mg mb : PySem.Str → Option Value} (dp un : Nat) (gd : Option (List Code)) (a : Addr) (ccd : Value) (outer : List Env) (A₀ : Around) (base h₀ : Heap) (L : Addr) (s : Shared) (c1 c2 c3 c4 c5 c6 c7 c8 c9 c10 : Obj) (m : PySem.Str → Option Value) (tail : List (Addr × Obj)) (Ds : Addr) (sv : List Value) (ns : Nat) (sts : List LE) (total : Int) (tt : Tok)
    (Q : Flow → Shared → Prop) (E : Value → Shared → Prop) (B : Below A₀ base outer h₀) (F : Fr h₀ L s.heap m) (X : (K w.params).In h₀) (N : News h₀ L s.heap ((Ds, W.listOf sv.toArray ns) :: (L + 1 + 1 + 1 + 1 + 1 + 1 + 1 + 1 + 1 + 1, c1) :: (L + 1 + 1 + 1 + 1 + 1 + 1 + 1 + 1 + 1, c2) :: (L + 1 + 1 + 1 + 1 + 1 + 1 + 1 + 1, c3) :: (L + 1 + 1 + 1 + 1 + 1 + 1 + 1, c4) :: (L + 1 + 1 + 1 + 1 + 1 + 1, c5) :: (L + 1 + 1 + 1 + 1 + 1, c6) :: (L + 1 + 1 + 1 + 1, c7) :: (L + 1 + 1 + 1, c8) :: (L + 1 + 1, c9) :: (L + 1, c10) :: tail)) (T : Top p loose mean mg mb h₀) (hd : dp + 100 < recursionLimit) (hu : un + 400 < cLine)
    (hvstates : m (.ofString "states") = some (.ref Ds)) (d8 : c8.data = .cell (some (.int total tt))) (hsv : sv = sts.map fun e => .ref e.1) (hsl : sts.length ≤ 24) (hst : ∀ e ∈ sts, leObj e ∈ tail ∧ IntsAre e.2.1 e.2.2.2 ∧ List.Pairwise (fun x y => x ≤ y) e.2.2.2 ∧ e.2.2.2.length ≤ 8) (t1 : 1 ≤ total) (t2 : total ≤ 8)
    (cont : ∀ (De : Addr) (xs : List LE) h' tk', xs.map (·.2.2.2) = sts.map (fun e => extraOf e.2.2.2 total) → (∀ x ∈ xs, IntsAre x.2.1 x.2.2.2) → (∀ x ∈ xs, @Ne Nat (L + 1 + 1 + 1 + 1 + 1 + 1 + 1 + 1 + 1 + 1) x.1 ∧ @Ne Nat (L + 1 + 1 + 1 + 1 + 1 + 1 + 1 + 1 + 1) x.1 ∧ @Ne Nat (L + 1 + 1 + 1 + 1 + 1 + 1 + 1 + 1) x.1 ∧ @Ne Nat (L + 1 + 1 + 1 + 1 + 1 + 1 + 1) x.1 ∧ @Ne Nat (L + 1 + 1 + 1 + 1 + 1 + 1) x.1 ∧ @Ne Nat (L + 1 + 1 + 1 + 1 + 1) x.1 ∧ @Ne Nat (L + 1 + 1 + 1 + 1) x.1 ∧ @Ne Nat (L + 1 + 1 + 1) x.1 ∧ @Ne Nat (L + 1 + 1) x.1 ∧ @Ne Nat (L + 1) x.1) → (@Ne Nat (L + 1 + 1 + 1 + 1 + 1 + 1 + 1 + 1 + 1 + 1) De ∧ @Ne Nat (L + 1 + 1 + 1 + 1 + 1 + 1 + 1 + 1 + 1) De ∧ @Ne Nat (L + 1 + 1 + 1 + 1 + 1 + 1 + 1 + 1) De ∧ @Ne Nat (L + 1 + 1 + 1 + 1 + 1 + 1 + 1) De ∧ @Ne Nat (L + 1 + 1 + 1 + 1 + 1 + 1) De ∧ @Ne Nat (L + 1 + 1 + 1 + 1 + 1) De ∧ @Ne Nat (L + 1 + 1 + 1 + 1) De ∧ @Ne Nat (L + 1 + 1 + 1) De ∧ @Ne Nat (L + 1 + 1) De ∧ @Ne Nat (L + 1) De) → Fr h₀ L h' (upd m (.ofString "extras") (.ref De)) → News h₀ L h' ((De, W.listOf (xs.map fun e => Value.ref e.1).toArray xs.length) :: (Ds, W.listOf sv.toArray ns) :: (L + 1 + 1 + 1 + 1 + 1 + 1 + 1 + 1 + 1 + 1, c1) :: (L + 1 + 1 + 1 + 1 + 1 + 1 + 1 + 1 + 1, c2) :: (L + 1 + 1 + 1 + 1 + 1 + 1 + 1 + 1, c3) :: (L + 1 + 1 + 1 + 1 + 1 + 1 + 1, c4) :: (L + 1 + 1 + 1 + 1 + 1 + 1, c5) :: (L + 1 + 1 + 1 + 1 + 1, c6) :: (L + 1 + 1 + 1 + 1, c7) :: (L + 1 + 1 + 1, c8) :: (L + 1 + 1, c9) :: (L + 1, c10) :: (tail ++ xs.map leObj)) → wpAny (model pw w) (ktrTop dp un gd (.ofString "law") lawScope L a ccd (cellsFrom (L + 1) lawScope.names []) outer) (execs (lawBody.drop 13) (envOfC (.ofString "law") lawScope L a ccd)) Q E { s with heap := h', toks := tk' }) :
    wpAny (model pw w) (ktrTop dp un gd (.ofString "law") lawScope L a ccd (cellsFrom (L + 1) lawScope.names []) outer) (execs (lawBody.drop 12) (envOfC (.ofString "law") lawScope L a ccd)) Q E s := by
  unfold lawBody
  have hvs : ∀ p ∈ ([(.ofString "states", .ref Ds)] : List (PySem.Str × Value)), m p.1 = some p.2 := List.forall_mem_cons.mpr ⟨hvstates, List.forall_mem_nil _⟩
  have F := fr_over F hvs
  refine' law_in (A := fun sc => ktrTop dp un gd (.ofString "law") sc L a ccd (cellsFrom (L + 1) sc.names []) outer) (env := fun sc => envOfC (.ofString "law") sc L a ccd) ?hs ?hb ?_
  case hs => conv => lhs; whnf
  case hb => conv => lhs; whnf
  dsimp only
  have hsvl : sv.length = sts.length := by rw [hsv, List.length_map]
  (repeat' (first | (k_unfold; (try dsimp only)) | (k_end; wrow_close) | with_reducible ((with_reducible show wpAny _ _ (eval (Expr.ListComp _ [PySem.Comprehension.mk _ _ [] _] _ _) _) _ _ _); k_dflt (refine LCg.ListComp_U (F₀ := by k_asm) (by with_unfolding_all rfl) (by decide) (by rfl) (by decide) (by rfl) ?_)) | walk1 | (dsimp only; walk1) | (leave1; (try dsimp only)) | fail))
  unfold Halt
  rename Fr _ _ _ _ => F9
  rename News _ _ _ _ => N9
  obtain ⟨base, hbase, N10⟩ := news_gen N9
  have hDb : (Ds, W.listOf sv.toArray ns) ∈ base := by rw [hbase]; k_mem
  have hTb : ∀ p ∈ tail, p ∈ base := fun p hp => by
    rw [hbase]
    repeat (first | exact hp | apply List.mem_cons_of_mem)
  refine LCg.CompSrc.ledger (its := sv.toArray) (by rfl) F9 N10 hDb (by rw [sizeLine_eq, List.size_toArray]; omega) (fun g => ?_)
  refine rest_inv sv.toArray.size (fun i zs nw => ∃ xs : List LE, nw = base ++ xs.map leObj ∧ zs = xs.map (fun e => .ref e.1) ∧ xs.map (·.2.2.2) = (sts.take i).map (fun e => extraOf e.2.2.2 total) ∧ (∀ x ∈ xs, IntsAre x.2.1 x.2.2.2) ∧ ∀ x ∈ xs, @Ne Nat (L + 1 + 1 + 1 + 1 + 1 + 1 + 1 + 1 + 1 + 1) x.1 ∧ @Ne Nat (L + 1 + 1 + 1 + 1 + 1 + 1 + 1 + 1 + 1) x.1 ∧ @Ne Nat (L + 1 + 1 + 1 + 1 + 1 + 1 + 1 + 1) x.1 ∧ @Ne Nat (L + 1 + 1 + 1 + 1 + 1 + 1 + 1) x.1 ∧ @Ne Nat (L + 1 + 1 + 1 + 1 + 1 + 1) x.1 ∧ @Ne Nat (L + 1 + 1 + 1 + 1 + 1) x.1 ∧ @Ne Nat (L + 1 + 1 + 1 + 1) x.1 ∧ @Ne Nat (L + 1 + 1 + 1) x.1 ∧ @Ne Nat (L + 1 + 1) x.1 ∧ @Ne Nat (L + 1) x.1) ?turn ?fin sv.toArray.size 0 [] _ (by omega) ⟨[], (List.append_nil _).symm, rfl, rfl, (by intro x h; cases h), (by intro x h; cases h)⟩
  case turn =>
    rintro i zs nw v I oI C oC D m₂ h tk E' hi4 ⟨xs, rfl, hzs, hxs, hxi, hxn⟩ hv h3 h4 h5 h6 h7 h8
    obtain ⟨e9, he9, rfl⟩ := le_at hsv hv
    obtain ⟨q1, q2, q3, q4⟩ := hst e9 (List.mem_of_getElem? he9)
    have h7' := h7.mem
    clear h7 N10 N9 F9
    have hm9 : (e9.1, W.listOf e9.2.1.toArray e9.2.2.1) ∈ (I, oI) :: (C, oC) :: (D, LCg.lst zs) :: (base ++ xs.map leObj) := .tail _ (.tail _ (.tail _ (List.mem_append_left _ (hTb _ q1))))
    rw [hbase] at h6 hm9
    simp only [List.cons_append, List.nil_append] at h6 hm9
    (repeat' (first | (k_unfold; (try dsimp only)) | (k_end; wrow_close) | with_reducible ((with_reducible show wpAny _ _ (eval (Expr.ListComp _ [PySem.Comprehension.mk _ _ [] _] _ _) _) _ _ _); k_dflt (refine LCg.ListComp_U (F₀ := by k_asm) (by with_unfolding_all rfl) (by decide) (by rfl) (by decide) (by rfl) ?_)) | walk1 | (dsimp only; walk1) | (leave1; (try dsimp only)) | fail))
    unfold Halt
    refine' con_extra _ _ _ _ _ _ _ _ _ _ _ _ _ _ _ _ _ _ _ _ _ _ _ _ ?kB ?kF ?kX ?kN ?kT ?kk ?kd ?ku ?hu2 ?hm ?hi ?hso ?h9 ?t1 ?t2 ?_
    case kB => k_asm
    case kF => k_asm
    case kX => k_asm
    case kN => k_asm
    case kT => k_asm
    case kk => rfl
    case kd => ktr_room
    case ku => ke_room
    case hu2 => first | omega | (dsimp only [ktrTop]; omega)
    case hm => exact hm9
    case hi => assumption
    case hso => assumption
    case h9 => assumption
    case t1 => assumption
    case t2 => assumption
    intro D9 its9 h9 tk9 hi9 hne9 F' N'
    (repeat' (first | (k_unfold; (try dsimp only)) | (k_end; wrow_close) | with_reducible ((with_reducible show wpAny _ _ (eval (Expr.ListComp _ [PySem.Comprehension.mk _ _ [] _] _ _) _) _ _ _); k_dflt (refine LCg.ListComp_U (F₀ := by k_asm) (by with_unfolding_all rfl) (by decide) (by rfl) (by decide) (by rfl) ?_)) | walk1 | (dsimp only; walk1) | (leave1; (try dsimp only)) | fail))
    unfold Halt
    rename Fr _ _ _ _ => F5
    rename News _ _ _ _ => N5
    have hn9 := hne9
    simp only [List.forall_mem_cons] at hn9
    have N6 := news_cast (l' := leObj (D9, its9, its9.length, extraOf e9.2.2.2 total) :: (I, oI) :: (C, oC) :: (D, LCg.lst zs) :: (base ++ xs.map leObj)) N5 (by rw [hbase]; rfl)
    refine LCg.CompEnd.intro F5 N6 _ (fun q hq => sub_last (l := (I, oI) :: (C, oC) :: (D, LCg.lst zs) :: base) (m := xs.map leObj) (a := leObj (D9, its9, its9.length, extraOf e9.2.2.2 total)) q hq) (off_lastN h7' hn9.1 hn9.2.1 hn9.2.2.1) (.inr ⟨_, List.mem_append_left _ hDb, rfl, _, rfl⟩) ⟨xs ++ [(D9, its9, its9.length, extraOf e9.2.2.2 total)], by rw [List.map_append]; rfl, by rw [hzs, List.map_append]; rfl, ?_, ?_, ?_⟩
    · rw [List.map_append, hxs, List.take_add_one, he9, List.map_append]; rfl
    · intro x hx
      rcases List.mem_append.mp hx with hx | hx
      · exact hxi x hx
      · rw [List.mem_singleton.mp hx]; exact hi9
    · intro x hx
      rcases List.mem_append.mp hx with hx | hx
      · exact hxn x hx
      · rw [List.mem_singleton.mp hx]
        exact ⟨hn9.2.2.2.2.1, hn9.2.2.2.2.2.1, hn9.2.2.2.2.2.2.1, hn9.2.2.2.2.2.2.2.1, hn9.2.2.2.2.2.2.2.2.1, hn9.2.2.2.2.2.2.2.2.2.1, hn9.2.2.2.2.2.2.2.2.2.2.1, hn9.2.2.2.2.2.2.2.2.2.2.2.1, hn9.2.2.2.2.2.2.2.2.2.2.2.2.1, hn9.2.2.2.2.2.2.2.2.2.2.2.2.2.1⟩
  case fin =>
    rintro zs nw ⟨xs, rfl, hzs, hxs, hxi, hxn⟩
    intro D2 h tk F7 N7 O7
    rw [List.take_of_length_le (by rw [List.size_toArray]; omega)] at hxs
    have hxl : zs.length = xs.length := by rw [hzs, List.length_map]
    have N8 : News h₀ L h ((D2, W.listOf (xs.map fun e => Value.ref e.1).toArray xs.length) :: (base ++ xs.map leObj)) := by
      have e : LCg.lst zs = W.listOf (xs.map fun e => Value.ref e.1).toArray xs.length := by
        rw [← hxl, ← hzs]
      rw [← e]; exact N7
    clear N7 N10 N9 F9
    have hO := off1_mem O7
    rw [hbase] at N8 hO
    simp only [List.cons_append, List.nil_append] at N8 hO
    simp only [List.forall_mem_cons] at hO
    clear O7
    dsimp only
    (repeat' (first | (k_unfold; (try dsimp only)) | (k_end; wrow_close) | with_reducible ((with_reducible show wpAny _ _ (eval (Expr.ListComp _ [PySem.Comprehension.mk _ _ [] _] _ _) _) _ _ _); k_dflt (refine LCg.ListComp_U (F₀ := by k_asm) (by with_unfolding_all rfl) (by decide) (by rfl) (by decide) (by rfl) ?_)) | walk1 | (dsimp only; walk1) | (leave1; (try dsimp only)) | fail))
    unfold Halt
    rename Fr _ _ _ _ => F9
    exact cont D2 xs _ _ hxs hxi hxn ⟨hO.2.1, hO.2.2.1, hO.2.2.2.1, hO.2.2.2.2.1, hO.2.2.2.2.2.1, hO.2.2.2.2.2.2.1, hO.2.2.2.2.2.2.2.1, hO.2.2.2.2.2.2.2.2.1, hO.2.2.2.2.2.2.2.2.2.1, hO.2.2.2.2.2.2.2.2.2.2.1⟩ (fr_upd hvs F9) N8
end
section
set_option linter.unusedVariables false
set_option maxRecDepth 100000
set_option maxHeartbeats 4000000
local macro_rules | `(tactic| walk_at "CompSrc") => `(tactic| walk_at "mine.1")
local macro_rules | `(tactic| walk_at "CompEnd") => `(tactic| walk_at "mine.1")
local macro_rules | `(tactic| walk_at "FinE") => `(tactic| walk_at "mine.1")
theorem haltB3 {M : Model} {A : Around} {q1 : Pos} {q2 : Pos} {e : PySem.Expr} {r : List Stmt} {env : Env} {Q : Flow → Shared → Prop} {E : Value → Shared → Prop} {s : Shared} (h : Halt (wpAny M A (execs (Stmt.Assign [PySem.Expr.Name (PySem.Str.ofString "ring") q1] e q2 :: r) env) Q E s)) : wpAny M A (execs (Stmt.Assign [PySem.Expr.Name (PySem.Str.ofString "ring") q1] e q2 :: r) env) Q E s := h
local macro_rules | `(tactic| walk_at "execs cons") => `(tactic| (with_reducible refine haltB3 ?_))
theorem back3 {w : World} {p : Program} {loose : List PySem.Str} {mean : ExcName → Option Value} {mg mb : PySem.Str → Option Value} (dp un : Nat) (gd : Option (List Code)) (a : Addr) (ccd : Value) (outer : List Env) (A₀ : Around) (base h₀ : Heap) (L : Addr) (s : Shared) (c1 c2 c3 c4 c5 c6 c7 c8 c9 c10 : Obj) (m : PySem.Str → Option Value) (tail : List (Addr × Obj)) (De Ds Dm : Addr) (sv : List Value) (ns nm : Nat) (xs : List LE) (k0 : Int) (tm : Tok)
    (Q : Flow → Shared → Prop) (E : Value → Shared → Prop) (B : Below A₀ base outer h₀) (F : Fr h₀ L s.heap m) (X : (K w.params).In h₀) (N : News h₀ L s.heap ((De, W.listOf (xs.map fun e => Value.ref e.1).toArray xs.length) :: (Ds, W.listOf sv.toArray ns) :: (Dm, W.listOf #[Value.int k0 tm] nm) :: (L + 1 + 1 + 1 + 1 + 1 + 1 + 1 + 1 + 1 + 1, c1) :: (L + 1 + 1 + 1 + 1 + 1 + 1 + 1 + 1 + 1, c2) :: (L + 1 + 1 + 1 + 1 + 1 + 1 + 1 + 1, c3) :: (L + 1 + 1 + 1 + 1 + 1 + 1 + 1, c4) :: (L + 1 + 1 + 1 + 1 + 1 + 1, c5) :: (L + 1 + 1 + 1 + 1 + 1, c6) :: (L + 1 + 1 + 1 + 1, c7) :: (L + 1 + 1 + 1, c8) :: (L + 1 + 1, c9) :: (L + 1, c10) :: tail)) (T : Top p loose mean mg mb h₀) (hd : dp + 100 < recursionLimit) (hu : un + 400 < cLine)
    (hvextras : m (.ofString "extras") = some (.ref De)) (hvstates : m (.ofString "states") = some (.ref Ds)) (d5 : c5.data = .cell (some (.ref Dm))) (hsl : sv.length = xs.length) (hxl : xs.length ≤ 24) (hxt : ∀ x ∈ xs, leObj x ∈ tail) (hxi : ∀ x ∈ xs, IntsAre x.2.1 x.2.2.2) (hb : xs.map (fun x => !decide (x.2.2.2 = [])) = (List.range xs.length).map (fun (k : Nat) => decide (k0 ≤ 0 + (k : Int))))
    (cont : ∀ h' tk', Fr h₀ L h' m → News h₀ L h' ((De, W.listOf (xs.map fun e => Value.ref e.1).toArray xs.length) :: (Ds, W.listOf sv.toArray ns) :: (Dm, W.listOf #[Value.int k0 tm] nm) :: (L + 1 + 1 + 1 + 1 + 1 + 1 + 1 + 1 + 1 + 1, c1) :: (L + 1 + 1 + 1 + 1 + 1 + 1 + 1 + 1 + 1, c2) :: (L + 1 + 1 + 1 + 1 + 1 + 1 + 1 + 1, c3) :: (L + 1 + 1 + 1 + 1 + 1 + 1 + 1, c4) :: (L + 1 + 1 + 1 + 1 + 1 + 1, c5) :: (L + 1 + 1 + 1 + 1 + 1, c6) :: (L + 1 + 1 + 1 + 1, c7) :: (L + 1 + 1 + 1, c8) :: (L + 1 + 1, c9) :: (L + 1, c10) :: tail) → wpAny (model pw w) (ktrTop dp un gd (.ofString "law") lawScope L a ccd (cellsFrom (L + 1) lawScope.names []) outer) (execs (lawBody.drop 14) (envOfC (.ofString "law") lawScope L a ccd)) Q E { s with heap := h', toks := tk' }) :
    wpAny (model pw w) (ktrTop dp un gd (.ofString "law") lawScope L a ccd (cellsFrom (L + 1) lawScope.names []) outer) (execs (lawBody.drop 13) (envOfC (.ofString "law") lawScope L a ccd)) Q E s := by
  unfold lawBody
  have hvs : ∀ p ∈ ([(.ofString "extras", .ref De), (.ofString "states", .ref Ds)] : List (PySem.Str × Value)), m p.1 = some p.2 := List.forall_mem_cons.mpr ⟨hvextras, List.forall_mem_cons.mpr ⟨hvstates, List.forall_mem_nil _⟩⟩
  have F := fr_over F hvs
  refine' law_in (A := fun sc => ktrTop dp un gd (.ofString "law") sc L a ccd (cellsFrom (L + 1) sc.names []) outer) (env := fun sc => envOfC (.ofString "law") sc L a ccd) ?hs ?hb ?_
  case hs => conv => lhs; whnf
  case hb => conv => lhs; whnf
  dsimp only
  (repeat' (first | (k_unfold; (try dsimp only)) | (k_end; wrow_close) | with_reducible ((with_reducible show wpAny _ _ (eval (Expr.ListComp _ [PySem.Comprehension.mk _ _ [] _] _ _) _) _ _ _); k_dflt (refine LCg.ListComp_U (F₀ := by k_asm) (by with_unfolding_all rfl) (by decide) (by rfl) (by decide) (by rfl) ?_)) | with_reducible ((with_reducible show wpAny _ _ (subscriptTail _ _ (Value.ref _) (Value.int _ _)) _ _ _); (with_unfolding_all refine' list_int ?N ?hm ?hi ?h0 ?h1 ?hz ?_ ?k6 ?k7; (case N => k_asm); (case hm => k_mem); (case hi => assumption); (case h0 => first | assumption | omega); (case h1 => first | assumption | omega); (case hz => first | assumption | omega); (case k6 => with_unfolding_all rfl); (case k7 => intro _; with_unfolding_all rfl); k_whole; intro tIq9)) | with_reducible ((with_reducible show wpAny _ _ (call _ _) _ _ _); k_dflt (refine' len_led ?N ?hm ?e ?hz ?_; (case N => k_asm); (case hm => k_mem); (case e => first | (rw [List.size_toArray, List.length_map]) | (rw [List.size_toArray]; assumption) | exact List.size_toArray); (case hz => omega)); intro uLq9) | with_reducible ((with_reducible show wpAny _ _ (compareOp CmpOp.NotEq (Value.ref _) (Value.ref _)) _ _ _); first | k_dflt (refine' ne_bools_same ?N ?ha ?hb ?hu ?_; (case N => k_asm); (case ha => k_mem); (case hb => k_mem); (case hu => ke_room)) | k_dflt (refine' ne_ints_nil ?N ?ha ?hb ?hi ?hu ?_; (case N => k_asm); (case ha => k_mem); (case hb => k_mem); (case hi => assumption); (case hu => ke_room))) | walk1 | (dsimp only; walk1) | (leave1; (try dsimp only)) | fail))
  unfold Halt
  rename Fr _ _ _ _ => F9
  rename News _ _ _ _ => N9
  obtain ⟨base, hbase, N10⟩ := news_gen N9
  have hDb : (De, W.listOf (xs.map fun e => Value.ref e.1).toArray xs.length) ∈ base := by rw [hbase]; k_mem
  have hTb : ∀ p ∈ tail, p ∈ base := fun p hp => by
    rw [hbase]
    repeat (first | exact hp | apply List.mem_cons_of_mem)
  refine LCg.CompSrc.ledger (its := (xs.map fun e => Value.ref e.1).toArray) (by rfl) F9 N10 hDb (by rw [sizeLine_eq, List.size_toArray, List.length_map]; omega) (fun g => ?_)
  refine rest_inv (xs.map fun e => Value.ref e.1).toArray.size (fun i zs nw => nw = base ∧ zs = (xs.take i).map (fun x : LE => Value.bool (!decide (x.2.2.2 = [])))) ?turn ?fin (xs.map fun e => Value.ref e.1).toArray.size 0 [] _ (by omega) ⟨rfl, rfl⟩
  case turn =>
    rintro i zs nw v I oI C oC D m₂ h tk E' hi4 ⟨hnw, hz⟩ hv h3 h4 h5 h6 h7 h8
    rw [hnw] at h6 h7
    clear hnw
    obtain ⟨e9, he9, rfl⟩ := le_at rfl hv
    have q1 := hxt e9 (List.mem_of_getElem? he9)
    have q2 := hxi e9 (List.mem_of_getElem? he9)
    have hN : News h₀ L h ((e9.1, W.listOf e9.2.1.toArray e9.2.2.1) :: (I, oI) :: (C, oC) :: (D, LCg.lst zs) :: base) := fun q hq => h6 q (by
      rcases List.mem_cons.mp hq with rfl | hq
      · exact .tail _ (.tail _ (.tail _ (hTb _ q1)))
      · exact hq)
    clear h6 N10 N9 F9
    (repeat' (first | (k_unfold; (try dsimp only)) | (k_end; wrow_close) | with_reducible ((with_reducible show wpAny _ _ (eval (Expr.ListComp _ [PySem.Comprehension.mk _ _ [] _] _ _) _) _ _ _); k_dflt (refine LCg.ListComp_U (F₀ := by k_asm) (by with_unfolding_all rfl) (by decide) (by rfl) (by decide) (by rfl) ?_)) | with_reducible ((with_reducible show wpAny _ _ (subscriptTail _ _ (Value.ref _) (Value.int _ _)) _ _ _); (with_unfolding_all refine' list_int ?N ?hm ?hi ?h0 ?h1 ?hz ?_ ?k6 ?k7; (case N => k_asm); (case hm => k_mem); (case hi => assumption); (case h0 => first | assumption | omega); (case h1 => first | assumption | omega); (case hz => first | assumption | omega); (case k6 => with_unfolding_all rfl); (case k7 => intro _; with_unfolding_all rfl); k_whole; intro tIq9)) | with_reducible ((with_reducible show wpAny _ _ (call _ _) _ _ _); k_dflt (refine' len_led ?N ?hm ?e ?hz ?_; (case N => k_asm); (case hm => k_mem); (case e => first | (rw [List.size_toArray, List.length_map]) | (rw [List.size_toArray]; assumption) | exact List.size_toArray); (case hz => omega)); intro uLq9) | with_reducible ((with_reducible show wpAny _ _ (compareOp CmpOp.NotEq (Value.ref _) (Value.ref _)) _ _ _); first | k_dflt (refine' ne_bools_same ?N ?ha ?hb ?hu ?_; (case N => k_asm); (case ha => k_mem); (case hb => k_mem); (case hu => ke_room)) | k_dflt (refine' ne_ints_nil ?N ?ha ?hb ?hi ?hu ?_; (case N => k_asm); (case ha => k_mem); (case hb => k_mem); (case hi => assumption); (case hu => ke_room))) | walk1 | (dsimp only; walk1) | (leave1; (try dsimp only)) | fail))
    unfold Halt
    rename Fr _ _ _ _ => F5
    rename News _ _ _ _ => N5
    exact LCg.CompEnd.intro F5 N5 base (fun q hq => .tail _ (.tail _ hq)) h7 (.inr ⟨_, hDb, rfl, _, rfl⟩) ⟨rfl, by rw [hz, List.take_add_one, he9, List.map_append]; rfl⟩
  case fin =>
    rintro zs nw ⟨hnw, hz⟩
    intro D2 h tk F7 N7 O7
    rw [List.take_of_length_le (by rw [List.size_toArray, List.length_map]; omega)] at hz
    rw [hnw] at N7
    have N8 : News h₀ L h ((D2, W.listOf ((xs.map (fun x => !decide (x.2.2.2 = []))).map Value.bool).toArray xs.length) :: base) := by
      have e : LCg.lst zs = W.listOf ((xs.map (fun x => !decide (x.2.2.2 = []))).map Value.bool).toArray xs.length := by
        rw [hz, List.map_map]
        show ({ cls := .type "list", data := .seq _ (List.length _) } : Obj) = { cls := .type "list", data := .seq _ _ }
        rw [List.length_map]; rfl
      rw [← e]; exact N7
    clear N7 N10 N9 F9 hnw O7
    rw [hbase] at N8
    dsimp only
    (repeat' (first | (k_unfold; (try dsimp only)) | (k_end; wrow_close) | with_reducible ((with_reducible show wpAny _ _ (eval (Expr.ListComp _ [PySem.Comprehension.mk _ _ [] _] _ _) _) _ _ _); k_dflt (refine LCg.ListComp_U (F₀ := by k_asm) (by with_unfolding_all rfl) (by decide) (by rfl) (by decide) (by rfl) ?_)) | with_reducible ((with_reducible show wpAny _ _ (subscriptTail _ _ (Value.ref _) (Value.int _ _)) _ _ _); (with_unfolding_all refine' list_int ?N ?hm ?hi ?h0 ?h1 ?hz ?_ ?k6 ?k7; (case N => k_asm); (case hm => k_mem); (case hi => assumption); (case h0 => first | assumption | omega); (case h1 => first | assumption | omega); (case hz => first | assumption | omega); (case k6 => with_unfolding_all rfl); (case k7 => intro _; with_unfolding_all rfl); k_whole; intro tIq9)) | with_reducible ((with_reducible show wpAny _ _ (call _ _) _ _ _); k_dflt (refine' len_led ?N ?hm ?e ?hz ?_; (case N => k_asm); (case hm => k_mem); (case e => first | (rw [List.size_toArray, List.length_map]) | (rw [List.size_toArray]; assumption) | exact List.size_toArray); (case hz => omega)); intro uLq9) | with_reducible ((with_reducible show wpAny _ _ (compareOp CmpOp.NotEq (Value.ref _) (Value.ref _)) _ _ _); first | k_dflt (refine' ne_bools_same ?N ?ha ?hb ?hu ?_; (case N => k_asm); (case ha => k_mem); (case hb => k_mem); (case hu => ke_room)) | k_dflt (refine' ne_ints_nil ?N ?ha ?hb ?hi ?hu ?_; (case N => k_asm); (case ha => k_mem); (case hb => k_mem); (case hi => assumption); (case hu => ke_room))) | walk1 | (dsimp only; walk1) | (leave1; (try dsimp only)) | fail))
    unfold Halt
    rename Fr _ _ _ _ => F9
    rename News _ _ _ _ => N9
    rename IsRange _ _ _ _ _ _ _ _ => R9
    obtain ⟨baseb, hbb, N10⟩ := news_gen N9
    refine LCg.CompSrc.range (n := ((sv.length : Int) - 0).toNat) (by rfl) F9 N10 R9 (small_one (by omega) (by omega) (by omega) (by omega)) (rangeSize_nat _ _) (by rw [sizeLine_eq]; omega) (fun g => ?_)
    refine rest_inv ((sv.length : Int) - 0).toNat (fun i zs nw => nw = baseb ∧ zs = (List.range i).map (fun (k : Nat) => Value.bool (decide (k0 ≤ 0 + (k : Int))))) ?turn2 ?fin2 ((sv.length : Int) - 0).toNat 0 [] _ (by omega) ⟨rfl, rfl⟩
    case turn2 =>
      rintro i zs nw v I oI C oC D m₂ h tk E' hi4 ⟨hnw, hz⟩ ⟨t, rfl⟩ h3 h4 h5 h6 h7 h8
      rw [hnw] at h6 h7
      clear hnw
      rw [hbb] at h6
      clear N10 N9 F9 R9
      have hk1 : IntsAre [Value.int k0 tm] [k0] := .cons _ _ .nil
      (repeat' (first | (k_unfold; (try dsimp only)) | (k_end; wrow_close) | with_reducible ((with_reducible show wpAny _ _ (eval (Expr.ListComp _ [PySem.Comprehension.mk _ _ [] _] _ _) _) _ _ _); k_dflt (refine LCg.ListComp_U (F₀ := by k_asm) (by with_unfolding_all rfl) (by decide) (by rfl) (by decide) (by rfl) ?_)) | with_reducible ((with_reducible show wpAny _ _ (subscriptTail _ _ (Value.ref _) (Value.int _ _)) _ _ _); (with_unfolding_all refine' list_int ?N ?hm ?hi ?h0 ?h1 ?hz ?_ ?k6 ?k7; (case N => k_asm); (case hm => k_mem); (case hi => assumption); (case h0 => first | assumption | omega); (case h1 => first | assumption | omega); (case hz => first | assumption | omega); (case k6 => with_unfolding_all rfl); (case k7 => intro _; with_unfolding_all rfl); k_whole; intro tIq9)) | with_reducible ((with_reducible show wpAny _ _ (call _ _) _ _ _); k_dflt (refine' len_led ?N ?hm ?e ?hz ?_; (case N => k_asm); (case hm => k_mem); (case e => first | (rw [List.size_toArray, List.length_map]) | (rw [List.size_toArray]; assumption) | exact List.size_toArray); (case hz => omega)); intro uLq9) | with_reducible ((with_reducible show wpAny _ _ (compareOp CmpOp.NotEq (Value.ref _) (Value.ref _)) _ _ _); first | k_dflt (refine' ne_bools_same ?N ?ha ?hb ?hu ?_; (case N => k_asm); (case ha => k_mem); (case hb => k_mem); (case hu => ke_room)) | k_dflt (refine' ne_ints_nil ?N ?ha ?hb ?hi ?hu ?_; (case N => k_asm); (case ha => k_mem); (case hb => k_mem); (case hi => assumption); (case hu => ke_room))) | walk1 | (dsimp only; walk1) | (leave1; (try dsimp only)) | fail))
      unfold Halt
      rename Fr _ _ _ _ => F5
      rename News _ _ _ _ => N5
      exact LCg.CompEnd.intro F5 N5 baseb (fun q hq => by rw [hbb] at hq; exact hq) h7 trivial ⟨rfl, by rw [hz, List.range_succ, List.map_append]; rfl⟩
    case fin2 =>
      rintro zs nw ⟨hnw, hz⟩
      intro D3 h tk F7 N7 O7
      rw [show ((sv.length : Int) - 0).toNat = xs.length by omega] at hz
      rw [hnw] at N7
      have N9' : News h₀ L h ((D3, W.listOf (((List.range xs.length).map fun (k : Nat) => decide (k0 ≤ 0 + (k : Int))).map Value.bool).toArray xs.length) :: baseb) := by
        have e : LCg.lst zs = W.listOf (((List.range xs.length).map fun (k : Nat) => decide (k0 ≤ 0 + (k : Int))).map Value.bool).toArray xs.length := by
          rw [hz, List.map_map]
          show ({ cls := .type "list", data := .seq _ (List.length _) } : Obj) = { cls := .type "list", data := .seq _ _ }
          rw [List.length_map, List.length_range]; rfl
        rw [← e]; exact N7
      rw [hbb, hb] at N9'
      clear N7 N10 N9 F9 hnw O7
      dsimp only
      (repeat' (first | (k_unfold; (try dsimp only)) | (k_end; wrow_close) | with_reducible ((with_reducible show wpAny _ _ (eval (Expr.ListComp _ [PySem.Comprehension.mk _ _ [] _] _ _) _) _ _ _); k_dflt (refine LCg.ListComp_U (F₀ := by k_asm) (by with_unfolding_all rfl) (by decide) (by rfl) (by decide) (by rfl) ?_)) | with_reducible ((with_reducible show wpAny _ _ (subscriptTail _ _ (Value.ref _) (Value.int _ _)) _ _ _); (with_unfolding_all refine' list_int ?N ?hm ?hi ?h0 ?h1 ?hz ?_ ?k6 ?k7; (case N => k_asm); (case hm => k_mem); (case hi => assumption); (case h0 => first | assumption | omega); (case h1 => first | assumption | omega); (case hz => first | assumption | omega); (case k6 => with_unfolding_all rfl); (case k7 => intro _; with_unfolding_all rfl); k_whole; intro tIq9)) | with_reducible ((with_reducible show wpAny _ _ (call _ _) _ _ _); k_dflt (refine' len_led ?N ?hm ?e ?hz ?_; (case N => k_asm); (case hm => k_mem); (case e => first | (rw [List.size_toArray, List.length_map]) | (rw [List.size_toArray]; assumption) | exact List.size_toArray); (case hz => omega)); intro uLq9) | with_reducible ((with_reducible show wpAny _ _ (compareOp CmpOp.NotEq (Value.ref _) (Value.ref _)) _ _ _); first | k_dflt (refine' ne_bools_same ?N ?ha ?hb ?hu ?_; (case N => k_asm); (case ha => k_mem); (case hb => k_mem); (case hu => ke_room)) | k_dflt (refine' ne_ints_nil ?N ?ha ?hb ?hi ?hu ?_; (case N => k_asm); (case ha => k_mem); (case hb => k_mem); (case hi => assumption); (case hu => ke_room))) | walk1 | (dsimp only; walk1) | (leave1; (try dsimp only)) | fail))
      unfold Halt
      rename Fr _ _ _ _ => F5
      rename News _ _ _ _ => N5
      exact cont _ _ (fr_base hvs F5) (fun p hp => N5 p (.tail _ (.tail _ hp)))
end
section
set_option linter.unusedVariables false
set_option maxRecDepth 100000
set_option maxHeartbeats 4000000
theorem pick_fromL {vs : List Value} {x : Int} (h : 0 ≤ x) : slicePick vs.toArray (some x) none none = (vs.drop x.toNat).toArray := by
  have e : sliceBounds (some x) none none vs.toArray.size = (((min x.toNat vs.toArray.size : Nat) : Int), ((vs.toArray.size : Nat) : Int), 1) := by
    simp only [sliceBounds, Option.getD_none, show (1 : Int) > 0 by decide, if_true, if_neg (show ¬ (x < 0) by omega)]
    congr 1
    omega
  rw [kmk_pick_nat _ e, List.size_toArray, kmk_drop_min, List.take_of_length_le (by rw [List.length_drop]; omega)]
theorem haltB4 {M : Model} {A : Around} {q1 : Pos} {c : PySem.Expr} {e : PySem.Expr} {b1 : List Stmt} {b2 : List Stmt} {r : List Stmt} {env : Env} {Q : Flow → Shared → Prop} {E : Value → Shared → Prop} {s : Shared} (h : Halt (wpAny M A (execs (Stmt.For e c b1 b2 q1 :: r) env) Q E s)) : wpAny M A (execs (Stmt.For e c b1 b2 q1 :: r) env) Q E s := h
local macro_rules | `(tactic| walk_at "execs cons") => `(tactic| (with_reducible refine haltB4 ?_))
theorem back4 {w : World} {p : Program} {loose : List PySem.Str} {mean : ExcName → Option Value} {mg mb : PySem.Str → Option Value} (dp un : Nat) (gd : Option (List Code)) (a : Addr) (ccd : Value) (outer : List Env) (A₀ : Around) (base h₀ : Heap) (L : Addr) (s : Shared) (c1 c2 c3 c4 c5 c6 c7 c8 c9 c10 : Obj) (m : PySem.Str → Option Value) (tail : List (Addr × Obj)) (De Dm : Addr) (nm : Nat) (xs : List LE) (k0 : Int) (tm : Tok) (v1 : Option Value)
    (Q : Flow → Shared → Prop) (E : Value → Shared → Prop) (B : Below A₀ base outer h₀) (F : Fr h₀ L s.heap m) (X : (K w.params).In h₀) (N : News h₀ L s.heap ((De, W.listOf (xs.map fun e => Value.ref e.1).toArray xs.length) :: (Dm, W.listOf #[Value.int k0 tm] nm) :: (L + 1 + 1 + 1 + 1 + 1 + 1 + 1 + 1 + 1 + 1, c1) :: (L + 1 + 1 + 1 + 1 + 1 + 1 + 1 + 1 + 1, c2) :: (L + 1 + 1 + 1 + 1 + 1 + 1 + 1 + 1, c3) :: (L + 1 + 1 + 1 + 1 + 1 + 1 + 1, c4) :: (L + 1 + 1 + 1 + 1 + 1 + 1, c5) :: (L + 1 + 1 + 1 + 1 + 1, c6) :: (L + 1 + 1 + 1 + 1, c7) :: (L + 1 + 1 + 1, c8) :: (L + 1 + 1, c9) :: (L + 1, c10) :: tail)) (T : Top p loose mean mg mb h₀) (hd : dp + 100 < recursionLimit) (hu : un + 400 < cLine)
    (hvextras : m (.ofString "extras") = some (.ref De)) (d5 : c5.data = .cell (some (.ref Dm))) (d1 : c1.data = .cell v1) (hxl : xs.length ≤ 24) (hk0 : 0 ≤ k0) (hk24 : k0 ≤ 24) (hDe : @Ne Nat (L + 1 + 1 + 1 + 1 + 1 + 1 + 1 + 1 + 1 + 1) De) (hDm : @Ne Nat (L + 1 + 1 + 1 + 1 + 1 + 1 + 1 + 1 + 1 + 1) Dm) (ht10 : ∀ q ∈ tail, q.1 ≠ L + 1 + 1 + 1 + 1 + 1 + 1 + 1 + 1 + 1 + 1)
    (cont : ∀ (Dr : Addr) (c1' : Obj) h' tk', c1'.data = .cell (some (.ref Dr)) → Fr h₀ L h' m → News h₀ L h' ((Dr, W.listOf ((xs.map fun e => Value.ref e.1).drop k0.toNat).toArray 0) :: (L + 1 + 1 + 1 + 1 + 1 + 1 + 1 + 1 + 1 + 1, c1') :: (L + 1 + 1 + 1 + 1 + 1 + 1 + 1 + 1 + 1, c2) :: (L + 1 + 1 + 1 + 1 + 1 + 1 + 1 + 1, c3) :: (L + 1 + 1 + 1 + 1 + 1 + 1 + 1, c4) :: (L + 1 + 1 + 1 + 1 + 1 + 1, c5) :: (L + 1 + 1 + 1 + 1 + 1, c6) :: (L + 1 + 1 + 1 + 1, c7) :: (L + 1 + 1 + 1, c8) :: (L + 1 + 1, c9) :: (L + 1, c10) :: tail) → wpAny (model pw w) (ktrTop dp un gd (.ofString "law") lawScope L a ccd (cellsFrom (L + 1) lawScope.names []) outer) (execs (lawBody.drop 15) (envOfC (.ofString "law") lawScope L a ccd)) Q E { s with heap := h', toks := tk' }) :
    wpAny (model pw w) (ktrTop dp un gd (.ofString "law") lawScope L a ccd (cellsFrom (L + 1) lawScope.names []) outer) (execs (lawBody.drop 14) (envOfC (.ofString "law") lawScope L a ccd)) Q E s := by
  unfold lawBody
  have hx0 : (#[Value.int k0 tm] : Array Value)[Int.toNat 0]? = some (.int k0 tm) := rfl
  have hvs : ∀ p ∈ ([(.ofString "extras", .ref De)] : List (PySem.Str × Value)), m p.1 = some p.2 := List.forall_mem_cons.mpr ⟨hvextras, List.forall_mem_nil _⟩
  have F := fr_over F hvs
  refine' law_in (A := fun sc => ktrTop dp un gd (.ofString "law") sc L a ccd (cellsFrom (L + 1) sc.names []) outer) (env := fun sc => envOfC (.ofString "law") sc L a ccd) ?hs ?hb ?_
  case hs => conv => lhs; whnf
  case hb => conv => lhs; whnf
  dsimp only
  (repeat' (first | (k_unfold; (try dsimp only)) | (k_end; wrow_close) | with_reducible ((with_reducible show wpAny _ _ (subscriptTail _ _ (Value.ref _) (Value.int _ _)) _ _ _); (with_unfolding_all refine' list_atU ?N ?hm ?h0 ?hz ?hx ?_ ?k6 ?k7; (case N => k_asm); (case hm => k_mem); (case h0 => first | assumption | omega); (case hz => first | assumption | omega); (case hx => assumption); (case k6 => first | exact sub_binop | with_unfolding_all rfl); (case k7 => intro _; with_unfolding_all rfl); k_whole; intro uIq9)) | with_reducible ((with_reducible show wpAny _ _ (subscriptTail _ _ (Value.ref _) (Value.ref _)) _ _ _); (with_unfolding_all refine' slice_listS ?F ?N ?hl ?pl ?pu ?pt ?h0 ?hz ?_ ?k6 ?k7; (case F => k_asm); (case N => k_asm); (case hl => exact News.isList (by k_asm) (by k_mem)); (case pl => constructor); (case pu => constructor); (case pt => constructor); (case h0 => decide); (case hz => (rw [sizeLine_eq, List.size_toArray, List.length_map]; omega)); (case k6 => with_unfolding_all rfl); (case k7 => intro _; with_unfolding_all rfl); k_whole); intro Dq9 hq9 Fq9 Nq9 l1q9; (rw [pick_fromL (by omega)] at Nq9); (try k_lt l1q9); (try k_sweep)) | walk1 | (dsimp only; walk1) | (leave1; (try dsimp only)) | fail))
  unfold Halt
  rename Fr _ _ _ _ => F9
  rename News _ _ _ _ => N9
  exact cont _ _ _ _ (by assumption) (fr_base hvs F9) (news_drop [_] [_, _] N9)
end
section
set_option linter.unusedVariables false
set_option maxRecDepth 100000
set_option maxHeartbeats 4000000
noncomputable def ModIs (b : Int) (R j : Nat) : Prop := b.fmod (R : Int) = (j : Int)
theorem mod_ring {prog : Program} {w : World} {A : Around} {E : Value → Shared → Prop} {s : Shared} {b : Int} {t u : Tok} {R j : Nat} {Q : Value → Shared → Prop} (hp : 0 < R) (hj : ModIs b R j) (h : ∀ t' k, Q (.int (j : Int) t') { s with toks := k }) : wpAny (model prog w) A (binaryOp .Mod (.int b t) (.int (R : Int) u)) Q E s := by
  refine mod_int' (by omega) ?_
  rw [show b.fmod (R : Int) = (j : Int) from hj]
  exact h _ _
local macro_rules | `(tactic| walk_at "pyIter ref") => `(tactic| walk_at "mine.1")
local macro_rules | `(tactic| walk_at "TurnT") => `(tactic| walk_at "mine.1")
theorem haltB5 {M : Model} {A : Around} {q1 : Pos} {oe : Option PySem.Expr} {r : List Stmt} {env : Env} {Q : Flow → Shared → Prop} {E : Value → Shared → Prop} {s : Shared} (h : Halt (wpAny M A (execs (Stmt.Return oe q1 :: r) env) Q E s)) : wpAny M A (execs (Stmt.Return oe q1 :: r) env) Q E s := h
local macro_rules | `(tactic| walk_at "execs cons") => `(tactic| (with_reducible refine haltB5 ?_))
theorem back5 {w : World} {p : Program} {loose : List PySem.Str} {mean : ExcName → Option Value} {mg mb : PySem.Str → Option Value} (dp un : Nat) (gd : Option (List Code)) (a : Addr) (ccd : Value) (outer : List Env) (A₀ : Around) (base h₀ : Heap) (L : Addr) (s : Shared) (c1 c2 c3 c4 c5 c6 c7 c8 c9 c10 : Obj) (m : PySem.Str → Option Value) (tail : List (Addr × Obj)) (Dr : Addr) (nr : Nat) (ys : List LE)
    (Q : Flow → Shared → Prop) (B : Below A₀ base outer h₀) (F : Fr h₀ L s.heap m) (X : (K w.params).In h₀) (N : News h₀ L s.heap ((Dr, W.listOf (ys.map fun e => Value.ref e.1).toArray nr) :: (L + 1 + 1 + 1 + 1 + 1 + 1 + 1 + 1 + 1 + 1, c1) :: (L + 1 + 1 + 1 + 1 + 1 + 1 + 1 + 1 + 1, c2) :: (L + 1 + 1 + 1 + 1 + 1 + 1 + 1 + 1, c3) :: (L + 1 + 1 + 1 + 1 + 1 + 1 + 1, c4) :: (L + 1 + 1 + 1 + 1 + 1 + 1, c5) :: (L + 1 + 1 + 1 + 1 + 1, c6) :: (L + 1 + 1 + 1 + 1, c7) :: (L + 1 + 1 + 1, c8) :: (L + 1 + 1, c9) :: (L + 1, c10) :: tail)) (T : Top p loose mean mg mb h₀) (hd : dp + 100 < recursionLimit) (hu : un + 400 < cLine)
    (d1 : c1.data = .cell (some (.ref Dr))) (hyl : ys.length ≤ 24) (hy1 : 1 ≤ ys.length) (hys : ∀ y ∈ ys, leObj y ∈ tail ∧ IntsAre y.2.1 y.2.2.2 ∧ y.2.2.2.length ≤ 8) (hrot : ∀ k a b, k < ys.length → ys[k]? = some a → ys[(k + 1) % ys.length]? = some b → b.2.2.2 = rotI a.2.2.2)
    (cont : ∀ m' h' tk', Fr h₀ L h' m' → News h₀ L h' ((Dr, W.listOf (ys.map fun e => Value.ref e.1).toArray nr) :: (L + 1 + 1 + 1 + 1 + 1 + 1 + 1 + 1 + 1 + 1, c1) :: (L + 1 + 1 + 1 + 1 + 1 + 1 + 1 + 1 + 1, c2) :: (L + 1 + 1 + 1 + 1 + 1 + 1 + 1 + 1, c3) :: (L + 1 + 1 + 1 + 1 + 1 + 1 + 1, c4) :: (L + 1 + 1 + 1 + 1 + 1 + 1, c5) :: (L + 1 + 1 + 1 + 1 + 1, c6) :: (L + 1 + 1 + 1 + 1, c7) :: (L + 1 + 1 + 1, c8) :: (L + 1 + 1, c9) :: (L + 1, c10) :: tail) → wpAny (model pw w) (ktrTop dp un gd (.ofString "law") lawScope L a ccd (cellsFrom (L + 1) lawScope.names []) outer) (execs (lawBody.drop 16) (envOfC (.ofString "law") lawScope L a ccd)) Q (fun _ _ => False) { s with heap := h', toks := tk' }) :
    wpAny (model pw w) (ktrTop dp un gd (.ofString "law") lawScope L a ccd (cellsFrom (L + 1) lawScope.names []) outer) (execs (lawBody.drop 15) (envOfC (.ofString "law") lawScope L a ccd)) Q (fun _ _ => False) s := by
  unfold lawBody
  refine' law_in (A := fun sc => ktrTop dp un gd (.ofString "law") sc L a ccd (cellsFrom (L + 1) sc.names []) outer) (env := fun sc => envOfC (.ofString "law") sc L a ccd) ?hs ?hb ?_
  case hs => conv => lhs; whnf
  case hb => conv => lhs; whnf
  dsimp only
  (repeat' (first | (k_unfold; (try dsimp only)) | (k_end; wrow_close) | with_reducible ((with_reducible show wpAny _ _ (exec (PySem.Stmt.For _ _ _ _ _) _) _ _ _); (rename Fr _ _ _ _ => lFq9); (with_unfolding_all refine' For_invVF lFq9 ?k1 ?k2 ?_; (case k1 => exact rfl); (case k2 => exact rfl); k_whole)) | with_reducible ((with_reducible show wpAny _ _ (call _ _) _ _ _); k_dflt (refine' len_led ?N ?hm ?e ?hz ?_; (case N => k_asm); (case hm => k_mem); (case e => first | (rw [List.size_toArray, List.length_map]) | (rw [List.size_toArray]; assumption) | exact List.size_toArray); (case hz => omega)); intro uLq9) | with_reducible ((with_reducible show wpAny _ _ (subscriptTail _ _ (Value.ref _) (Value.int _ _)) _ _ _); (with_unfolding_all refine' list_atU ?N ?hm ?h0 ?hz ?hx ?_ ?k6 ?k7; (case N => k_asm); (case hm => k_mem); (case h0 => omega); (case hz => omega); (case hx => assumption); (case k6 => first | exact sub_binop | with_unfolding_all rfl); (case k7 => intro _; with_unfolding_all rfl); k_whole; intro uIq9)) | with_reducible ((with_reducible show wpAny _ _ (subscriptTail _ _ (Value.ref _) (Value.ref _)) _ _ _); (with_unfolding_all refine' slice_intsP ?F ?N ?hl ?hi ?pl ?pu ?pt ?hz ?hm ?_ ?k6 ?k7; (case F => k_asm); (case N => k_asm); (case hl => exact News.isList (by k_asm) (by k_mem)); (case hi => assumption); (case pl => constructor); (case pu => constructor); (case pt => constructor); (case hz => omega); (case hm => first | exact kmk_from_neg (by assumption) (by decide) | exact kmk_upto_neg (by assumption) (by decide) | exact kmk_from (by assumption) (by omega) | exact kmk_upto (by assumption) (by omega)); (case k6 => with_unfolding_all rfl); (case k7 => intro _; with_unfolding_all rfl); k_whole); intro Dq9 wsq9 hq9 Fq9 Nq9 l1q9 hIq9; (try k_lt l1q9); (try k_sweep)) | with_reducible ((with_reducible show wpAny _ _ (binaryOp _ (Value.ref _) (Value.ref _)) _ _ _); k_dflt (refine' kmk_add_ints ?F ?N ?a ?b ?i ?j ?_ ?z; (case F => k_asm); (case N => k_asm); (case a => exact News.isList (by k_asm) (by k_mem)); (case b => exact News.isList (by k_asm) (by k_mem)); (case i => assumption); (case j => assumption); (case z => (rw [sizeLine_eq]; simp only [List.length_drop, List.length_take]; omega))); intro Dq9 wsq9 hq9 Fq9 Nq9 l1q9 hIq9; (try k_lt l1q9); (try k_sweep)) | with_reducible ((with_reducible show wpAny _ _ (compareOp CmpOp.NotEq (Value.ref _) (Value.ref _)) _ _ _); k_dflt (refine' ne_ints_same ?N ?ha ?hb ?hi ?hj ?hu ?he ?_; (case N => k_asm); (case ha => k_mem); (case hb => k_mem); (case hi => assumption); (case hj => assumption); (case hu => ke_room); (case he => assumption))) | with_reducible ((with_reducible show wpAny _ _ (binaryOp Operator.Mod (Value.int _ _) (Value.int _ _)) _ _ _); k_dflt (refine mod_ring (by omega) (by assumption) ?_); intro tq9 kq9) | walk1 | (dsimp only; walk1) | (leave1; (try dsimp only)) | fail))
  unfold Halt
  rename Fr _ _ _ _ => F9
  rename News _ _ _ _ => N9
  rename IsRange _ _ _ _ _ _ _ _ => R9
  refine' iter_range (σ := Unit) F9 (by rfl) R9 (small_one (by omega) (by omega) (by omega) (by omega)) (rangeSize_nat _ _) (fun _ => []) (fun _ => (Dr, W.listOf (ys.map fun e => Value.ref e.1).toArray nr) :: (L + 1 + 1 + 1 + 1 + 1 + 1 + 1 + 1 + 1 + 1, c1) :: (L + 1 + 1 + 1 + 1 + 1 + 1 + 1 + 1 + 1, c2) :: (L + 1 + 1 + 1 + 1 + 1 + 1 + 1 + 1, c3) :: (L + 1 + 1 + 1 + 1 + 1 + 1 + 1, c4) :: (L + 1 + 1 + 1 + 1 + 1 + 1, c5) :: (L + 1 + 1 + 1 + 1 + 1, c6) :: (L + 1 + 1 + 1 + 1, c7) :: (L + 1 + 1 + 1, c8) :: (L + 1 + 1, c9) :: (L + 1, c10) :: tail) (fun _ _ => True) (fun _ => True) () ?hm N9 trivial ?turn (fun _ _ => trivial) ?done
  case hm => intro p hp; cases hp
  case turn =>
    intro i t a h tk I oI hi _ F2 hne N2
    have hio : i < ys.length := by omega
    have hjo : (i + 1) % ys.length < ys.length := Nat.mod_lt _ (by omega)
    obtain ⟨a9, ha9⟩ : ∃ q, ys[i]? = some q := ⟨ys[i], List.getElem?_eq_getElem hio⟩
    obtain ⟨b9, hb9⟩ : ∃ q, ys[(i + 1) % ys.length]? = some q := ⟨ys[(i + 1) % ys.length], List.getElem?_eq_getElem hjo⟩
    have hr9 := hrot i a9 b9 hio ha9 hb9
    obtain ⟨qa1, qa2, qa3⟩ := hys a9 (List.mem_of_getElem? ha9)
    obtain ⟨qb1, qb2, qb3⟩ := hys b9 (List.mem_of_getElem? hb9)
    have hx1 : (ys.map fun e => Value.ref e.1).toArray[(0 + (i : Int)).toNat]? = some (.ref a9.1) := by
      rw [show (0 + (i : Int)).toNat = i by omega, List.getElem?_toArray, List.getElem?_map, ha9]; rfl
    have hfe : (0 + (i : Int) + 1).fmod (ys.length : Int) = (((i + 1) % ys.length : Nat) : Int) := by
      rw [show (0 + (i : Int) + 1) = ((i + 1 : Nat) : Int) by omega, Int.fmod_eq_emod_of_nonneg _ (by omega)]; first | rfl | exact (Int.natCast_mod _ _).symm | omega
    have hf0 : (0 : Int) ≤ ((i + 1) % ys.length : Nat) := by omega
    have hf1 : (((i + 1) % ys.length : Nat) : Int) < 2 ^ 62 := by omega
    have hx2 : (ys.map fun e => Value.ref e.1).toArray[(((i + 1) % ys.length : Nat) : Int).toNat]? = some (.ref b9.1) := by
      rw [Int.toNat_natCast, List.getElem?_toArray, List.getElem?_map, hb9]; rfl
    have hmo : ModIs (0 + (i : Int) + 1) ys.length ((i + 1) % ys.length) := hfe
    clear hfe
    have hN : News h₀ L h ((a9.1, W.listOf a9.2.1.toArray a9.2.2.1) :: (b9.1, W.listOf b9.2.1.toArray b9.2.2.1) :: (I, oI) :: (Dr, W.listOf (ys.map fun e => Value.ref e.1).toArray nr) :: (L + 1 + 1 + 1 + 1 + 1 + 1 + 1 + 1 + 1 + 1, c1) :: (L + 1 + 1 + 1 + 1 + 1 + 1 + 1 + 1 + 1, c2) :: (L + 1 + 1 + 1 + 1 + 1 + 1 + 1 + 1, c3) :: (L + 1 + 1 + 1 + 1 + 1 + 1 + 1, c4) :: (L + 1 + 1 + 1 + 1 + 1 + 1, c5) :: (L + 1 + 1 + 1 + 1 + 1, c6) :: (L + 1 + 1 + 1 + 1, c7) :: (L + 1 + 1 + 1, c8) :: (L + 1 + 1, c9) :: (L + 1, c10) :: tail) := fun q hq => N2 q (by
      rcases List.mem_cons.mp hq with rfl | hq
      · have := qa1
        repeat (first | exact this | apply List.mem_cons_of_mem)
      · rcases List.mem_cons.mp hq with rfl | hq
        · have := qb1
          repeat (first | exact this | apply List.mem_cons_of_mem)
        · exact hq)
    clear N2 N9 F9 R9
    (repeat' (first | (k_unfold; (try dsimp only)) | (k_end; wrow_close) | with_reducible ((with_reducible show wpAny _ _ (exec (PySem.Stmt.For _ _ _ _ _) _) _ _ _); (rename Fr _ _ _ _ => lFq9); (with_unfolding_all refine' For_invVF lFq9 ?k1 ?k2 ?_; (case k1 => exact rfl); (case k2 => exact rfl); k_whole)) | with_reducible ((with_reducible show wpAny _ _ (call _ _) _ _ _); k_dflt (refine' len_led ?N ?hm ?e ?hz ?_; (case N => k_asm); (case hm => k_mem); (case e => first | (rw [List.size_toArray, List.length_map]) | (rw [List.size_toArray]; assumption) | exact List.size_toArray); (case hz => omega)); intro uLq9) | with_reducible ((with_reducible show wpAny _ _ (subscriptTail _ _ (Value.ref _) (Value.int _ _)) _ _ _); (with_unfolding_all refine' list_atU ?N ?hm ?h0 ?hz ?hx ?_ ?k6 ?k7; (case N => k_asm); (case hm => k_mem); (case h0 => omega); (case hz => omega); (case hx => assumption); (case k6 => first | exact sub_binop | with_unfolding_all rfl); (case k7 => intro _; with_unfolding_all rfl); k_whole; intro uIq9)) | with_reducible ((with_reducible show wpAny _ _ (subscriptTail _ _ (Value.ref _) (Value.ref _)) _ _ _); (with_unfolding_all refine' slice_intsP ?F ?N ?hl ?hi ?pl ?pu ?pt ?hz ?hm ?_ ?k6 ?k7; (case F => k_asm); (case N => k_asm); (case hl => exact News.isList (by k_asm) (by k_mem)); (case hi => assumption); (case pl => constructor); (case pu => constructor); (case pt => constructor); (case hz => omega); (case hm => first | exact kmk_from_neg (by assumption) (by decide) | exact kmk_upto_neg (by assumption) (by decide) | exact kmk_from (by assumption) (by omega) | exact kmk_upto (by assumption) (by omega)); (case k6 => with_unfolding_all rfl); (case k7 => intro _; with_unfolding_all rfl); k_whole); intro Dq9 wsq9 hq9 Fq9 Nq9 l1q9 hIq9; (try k_lt l1q9); (try k_sweep)) | with_reducible ((with_reducible show wpAny _ _ (binaryOp _ (Value.ref _) (Value.ref _)) _ _ _); k_dflt (refine' kmk_add_ints ?F ?N ?a ?b ?i ?j ?_ ?z; (case F => k_asm); (case N => k_asm); (case a => exact News.isList (by k_asm) (by k_mem)); (case b => exact News.isList (by k_asm) (by k_mem)); (case i => assumption); (case j => assumption); (case z => (rw [sizeLine_eq]; simp only [List.length_drop, List.length_take]; omega))); intro Dq9 wsq9 hq9 Fq9 Nq9 l1q9 hIq9; (try k_lt l1q9); (try k_sweep)) | with_reducible ((with_reducible show wpAny _ _ (compareOp CmpOp.NotEq (Value.ref _) (Value.ref _)) _ _ _); k_dflt (refine' ne_ints_same ?N ?ha ?hb ?hi ?hj ?hu ?he ?_; (case N => k_asm); (case ha => k_mem); (case hb => k_mem); (case hi => assumption); (case hj => assumption); (case hu => ke_room); (case he => assumption))) | with_reducible ((with_reducible show wpAny _ _ (binaryOp Operator.Mod (Value.int _ _) (Value.int _ _)) _ _ _); k_dflt (refine mod_ring (by omega) (by assumption) ?_); intro tq9 kq9) | walk1 | (dsimp only; walk1) | (leave1; (try dsimp only)) | fail))
    unfold Halt
    rename Fr _ _ _ _ => F7
    rename News _ _ _ _ => N7
    exact turn_end (.inl rfl) () F7 (fun p hp => N7 p (by repeat (first | exact hp | apply List.mem_cons_of_mem))) hne (fun y hy => if_neg hy) trivial
  case done =>
    intro a u h tk _ F3 N3
    clear N9 F9 R9
    (repeat' (first | (k_unfold; (try dsimp only)) | (k_end; wrow_close) | with_reducible ((with_reducible show wpAny _ _ (exec (PySem.Stmt.For _ _ _ _ _) _) _ _ _); (rename Fr _ _ _ _ => lFq9); (with_unfolding_all refine' For_invVF lFq9 ?k1 ?k2 ?_; (case k1 => exact rfl); (case k2 => exact rfl); k_whole)) | with_reducible ((with_reducible show wpAny _ _ (call _ _) _ _ _); k_dflt (refine' len_led ?N ?hm ?e ?hz ?_; (case N => k_asm); (case hm => k_mem); (case e => first | (rw [List.size_toArray, List.length_map]) | (rw [List.size_toArray]; assumption) | exact List.size_toArray); (case hz => omega)); intro uLq9) | with_reducible ((with_reducible show wpAny _ _ (subscriptTail _ _ (Value.ref _) (Value.int _ _)) _ _ _); (with_unfolding_all refine' list_atU ?N ?hm ?h0 ?hz ?hx ?_ ?k6 ?k7; (case N => k_asm); (case hm => k_mem); (case h0 => omega); (case hz => omega); (case hx => assumption); (case k6 => first | exact sub_binop | with_unfolding_all rfl); (case k7 => intro _; with_unfolding_all rfl); k_whole; intro uIq9)) | with_reducible ((with_reducible show wpAny _ _ (subscriptTail _ _ (Value.ref _) (Value.ref _)) _ _ _); (with_unfolding_all refine' slice_intsP ?F ?N ?hl ?hi ?pl ?pu ?pt ?hz ?hm ?_ ?k6 ?k7; (case F => k_asm); (case N => k_asm); (case hl => exact News.isList (by k_asm) (by k_mem)); (case hi => assumption); (case pl => constructor); (case pu => constructor); (case pt => constructor); (case hz => omega); (case hm => first | exact kmk_from_neg (by assumption) (by decide) | exact kmk_upto_neg (by assumption) (by decide) | exact kmk_from (by assumption) (by omega) | exact kmk_upto (by assumption) (by omega)); (case k6 => with_unfolding_all rfl); (case k7 => intro _; with_unfolding_all rfl); k_whole); intro Dq9 wsq9 hq9 Fq9 Nq9 l1q9 hIq9; (try k_lt l1q9); (try k_sweep)) | with_reducible ((with_reducible show wpAny _ _ (binaryOp _ (Value.ref _) (Value.ref _)) _ _ _); k_dflt (refine' kmk_add_ints ?F ?N ?a ?b ?i ?j ?_ ?z; (case F => k_asm); (case N => k_asm); (case a => exact News.isList (by k_asm) (by k_mem)); (case b => exact News.isList (by k_asm) (by k_mem)); (case i => assumption); (case j => assumption); (case z => (rw [sizeLine_eq]; simp only [List.length_drop, List.length_take]; omega))); intro Dq9 wsq9 hq9 Fq9 Nq9 l1q9 hIq9; (try k_lt l1q9); (try k_sweep)) | with_reducible ((with_reducible show wpAny _ _ (compareOp CmpOp.NotEq (Value.ref _) (Value.ref _)) _ _ _); k_dflt (refine' ne_ints_same ?N ?ha ?hb ?hi ?hj ?hu ?he ?_; (case N => k_asm); (case ha => k_mem); (case hb => k_mem); (case hi => assumption); (case hj => assumption); (case hu => ke_room); (case he => assumption))) | with_reducible ((with_reducible show wpAny _ _ (binaryOp Operator.Mod (Value.int _ _) (Value.int _ _)) _ _ _); k_dflt (refine mod_ring (by omega) (by assumption) ?_); intro tq9 kq9) | walk1 | (dsimp only; walk1) | (leave1; (try dsimp only)) | fail))
    unfold Halt
    exact cont _ _ _ F3 N3
end
section
set_option linter.unusedVariables false
set_option maxRecDepth 100000
set_option maxHeartbeats 4000000
noncomputable def perI (r : List Int) (i : Nat) : List Int := (((List.range i).map (· + 1)).filter fun k => r.drop k ++ r.take k == r).map fun (k : Nat) => (k : Int)
theorem perI_yes {r : List Int} {i : Nat} (h : r.drop (1 + (i : Int)).toNat ++ r.take (1 + (i : Int)).toNat = r) : perI r (i + 1) = perI r i ++ [1 + (i : Int)] := by
  rw [show (1 + (i : Int)).toNat = i + 1 by omega] at h
  unfold perI
  rw [List.range_succ, List.map_append, List.filter_append, List.map_append]
  simp [h]; omega
theorem perI_no {r : List Int} {i : Nat} (h : ¬ r.drop (1 + (i : Int)).toNat ++ r.take (1 + (i : Int)).toNat = r) : perI r (i + 1) = perI r i := by
  rw [show (1 + (i : Int)).toNat = i + 1 by omega] at h
  unfold perI
  rw [List.range_succ, List.map_append, List.filter_append, List.map_append]
  simp [h]
theorem min_head {r : List Int} {R : Nat} {M : Int} (h : (periods r).head? = some R) (a : M ∈ (periods r).map fun (k : Nat) => (k : Int)) (b : ∀ x ∈ (periods r).map fun (k : Nat) => (k : Int), M ≤ x) : M = (R : Int) := by
  have hs : List.Pairwise (fun x y : Nat => x < y) (periods r) := by
    unfold periods
    refine List.Pairwise.filter _ ?_
    rw [List.pairwise_map]
    exact List.Pairwise.imp (fun h => by omega) List.pairwise_lt_range
  cases e : periods r with
  | nil => rw [e] at h; cases h
  | cons x l =>
    rw [e] at h hs a b
    have hx : x = R := by simpa using h
    subst hx
    have h1 := b (x : Int) (by simp)
    obtain ⟨y, hy, rfl⟩ := List.mem_map.mp a
    rcases List.mem_cons.mp hy with rfl | hy
    · rfl
    · have := (List.pairwise_cons.mp hs).1 y hy
      omega
local macro_rules | `(tactic| walk_at "CompSrc") => `(tactic| walk_at "mine.1")
local macro_rules | `(tactic| walk_at "CompEnd") => `(tactic| walk_at "mine.1")
local macro_rules | `(tactic| walk_at "FinE") => `(tactic| walk_at "mine.1")
local macro_rules | `(tactic| walk_at "CompSrcT") => `(tactic| walk_at "mine.1")
theorem back6 {w : World} {p : Program} {loose : List PySem.Str} {mean : ExcName → Option Value} {mg mb : PySem.Str → Option Value} (dp un : Nat) (gd : Option (List Code)) (a : Addr) (ccd : Value) (outer : List Env) (A₀ : Around) (base h₀ : Heap) (L : Addr) (s : Shared) (c1 c2 c3 c4 c5 c6 c7 c8 c9 c10 : Obj) (m : PySem.Str → Option Value) (tail : List (Addr × Obj)) (Dr : Addr) (nr : Nat) (ys : List LE) (a0 : LE)
    (Q : Flow → Shared → Prop) (E : Value → Shared → Prop) (B : Below A₀ base outer h₀) (F : Fr h₀ L s.heap m) (X : (K w.params).In h₀) (N : News h₀ L s.heap ((Dr, W.listOf (ys.map fun e => Value.ref e.1).toArray nr) :: (L + 1 + 1 + 1 + 1 + 1 + 1 + 1 + 1 + 1 + 1, c1) :: (L + 1 + 1 + 1 + 1 + 1 + 1 + 1 + 1 + 1, c2) :: (L + 1 + 1 + 1 + 1 + 1 + 1 + 1 + 1, c3) :: (L + 1 + 1 + 1 + 1 + 1 + 1 + 1, c4) :: (L + 1 + 1 + 1 + 1 + 1 + 1, c5) :: (L + 1 + 1 + 1 + 1 + 1, c6) :: (L + 1 + 1 + 1 + 1, c7) :: (L + 1 + 1 + 1, c8) :: (L + 1 + 1, c9) :: (L + 1, c10) :: tail)) (T : Top p loose mean mg mb h₀) (hd : dp + 100 < recursionLimit) (hu : un + 400 < cLine)
    (d1 : c1.data = .cell (some (.ref Dr))) (hyl : ys.length ≤ 24) (ha0 : ys[0]? = some a0) (hm0 : leObj a0 ∈ tail) (hi0 : IntsAre a0.2.1 a0.2.2.2) (hl0 : a0.2.2.2.length ≤ 8) (hper : (periods a0.2.2.2).head? = some ys.length)
    (cont : ∀ h' tk' m', Fr h₀ L h' m' → Q (.ret (.bool true)) { s with heap := h', toks := tk' }) :
    wpAny (model pw w) (ktrTop dp un gd (.ofString "law") lawScope L a ccd (cellsFrom (L + 1) lawScope.names []) outer) (execs (lawBody.drop 16) (envOfC (.ofString "law") lawScope L a ccd)) Q E s := by
  unfold lawBody
  refine' law_in (A := fun sc => ktrTop dp un gd (.ofString "law") sc L a ccd (cellsFrom (L + 1) sc.names []) outer) (env := fun sc => envOfC (.ofString "law") sc L a ccd) ?hs ?hb ?_
  case hs => conv => lhs; whnf
  case hb => conv => lhs; whnf
  dsimp only
  have hN : News h₀ L s.heap ((a0.1, W.listOf a0.2.1.toArray a0.2.2.1) :: ((Dr, W.listOf (ys.map fun e => Value.ref e.1).toArray nr) :: (L + 1 + 1 + 1 + 1 + 1 + 1 + 1 + 1 + 1 + 1, c1) :: (L + 1 + 1 + 1 + 1 + 1 + 1 + 1 + 1 + 1, c2) :: (L + 1 + 1 + 1 + 1 + 1 + 1 + 1 + 1, c3) :: (L + 1 + 1 + 1 + 1 + 1 + 1 + 1, c4) :: (L + 1 + 1 + 1 + 1 + 1 + 1, c5) :: (L + 1 + 1 + 1 + 1 + 1, c6) :: (L + 1 + 1 + 1 + 1, c7) :: (L + 1 + 1 + 1, c8) :: (L + 1 + 1, c9) :: (L + 1, c10) :: tail)) := fun q hq => N q (by
    rcases List.mem_cons.mp hq with rfl | hq
    · have := hm0
      repeat (first | exact this | apply List.mem_cons_of_mem)
    · exact hq)
  clear N
  have hx0 : (ys.map fun e => Value.ref e.1).toArray[Int.toNat 0]? = some (.ref a0.1) := by
    rw [show Int.toNat 0 = 0 from rfl, List.getElem?_toArray, List.getElem?_map, ha0]; rfl
  have hv0 := hi0.length
  (repeat' (first | (k_unfold; (try dsimp only)) | (k_end; wrow_close) | with_reducible ((with_reducible show wpAny _ _ (eval (PySem.Expr.ListComp _ _ _ _ ) _) _ _ _); k_dflt (refine LCt.ListComp_T (F₀ := by k_asm) (by with_unfolding_all rfl) (by decide) (by rfl) (by decide) (by rfl) ?_)) | with_reducible ((with_reducible show wpAny _ _ (subscriptTail _ _ (Value.ref _) (Value.int _ _)) _ _ _); (with_unfolding_all refine' list_atU ?N ?hm ?h0 ?hz ?hx ?_ ?k6 ?k7; (case N => k_asm); (case hm => k_mem); (case h0 => first | assumption | omega); (case hz => first | assumption | omega); (case hx => assumption); (case k6 => first | exact sub_binop | with_unfolding_all rfl); (case k7 => intro _; with_unfolding_all rfl); k_whole; intro uIq9)) | with_reducible ((with_reducible show wpAny _ _ (call _ _) _ _ _); k_dflt (refine' len_led ?N ?hm ?e ?hz ?_; (case N => k_asm); (case hm => k_mem); (case e => first | (rw [List.size_toArray, List.length_map]) | (rw [List.size_toArray]; assumption) | exact List.size_toArray); (case hz => omega)); intro uLq9) | with_reducible ((with_reducible show wpAny _ _ (subscriptTail _ _ (Value.ref _) (Value.ref _)) _ _ _); (with_unfolding_all refine' slice_intsP ?F ?N ?hl ?hi ?pl ?pu ?pt ?hz ?hm ?_ ?k6 ?k7; (case F => k_asm); (case N => k_asm); (case hl => exact News.isList (by k_asm) (by k_mem)); (case hi => assumption); (case pl => constructor); (case pu => constructor); (case pt => constructor); (case hz => omega); (case hm => first | exact kmk_from_neg (by assumption) (by decide) | exact kmk_upto_neg (by assumption) (by decide) | exact kmk_from (by assumption) (by omega) | exact kmk_upto (by assumption) (by omega)); (case k6 => with_unfolding_all rfl); (case k7 => intro _; with_unfolding_all rfl); k_whole); intro Dq9 wsq9 hq9 Fq9 Nq9 l1q9 hIq9; (try k_lt l1q9); (try k_sweep)) | with_reducible ((with_reducible show wpAny _ _ (binaryOp _ (Value.ref _) (Value.ref _)) _ _ _); k_dflt (refine' kmk_add_ints ?F ?N ?a ?b ?i ?j ?_ ?z; (case F => k_asm); (case N => k_asm); (case a => exact News.isList (by k_asm) (by k_mem)); (case b => exact News.isList (by k_asm) (by k_mem)); (case i => assumption); (case j => assumption); (case z => (rw [sizeLine_eq]; simp only [List.length_drop, List.length_take]; omega))); intro Dq9 wsq9 hq9 Fq9 Nq9 l1q9 hIq9; (try k_lt l1q9); (try k_sweep)) | with_reducible ((with_reducible show wpAny _ _ (compareOp CmpOp.Eq (Value.ref _) (Value.ref _)) _ _ _); k_dflt (refine' eq_ints_led ?N ?ha ?hb ?hi ?hj ?hu ?_; (case N => k_asm); (case ha => k_mem); (case hb => k_mem); (case hi => assumption); (case hj => assumption); (case hu => ke_room))) | walk1 | (dsimp only; walk1) | (leave1; (try dsimp only)) | fail))
  unfold Halt
  rename Fr _ _ _ _ => F9
  rename News _ _ _ _ => N9
  rename IsRange _ _ _ _ _ _ _ _ => R9
  obtain ⟨base, hbase, N10⟩ := news_gen N9
  refine LCt.CompSrcT.range (n := ((a0.2.2.2.length : Int) + 1 - 1).toNat) (by rfl) F9 N10 R9 (small_one (by omega) (by omega) (by omega) (by omega)) (rangeSize_nat _ _) (by rw [sizeLine_eq]; omega) (fun g => ?_)
  refine restT_inv ((a0.2.2.2.length : Int) + 1 - 1).toNat (fun i zs nw => nw = base ∧ IntsAre zs (perI a0.2.2.2 i)) ?turn ?fin ((a0.2.2.2.length : Int) + 1 - 1).toNat 0 [] _ (by omega) ⟨rfl, .nil⟩
  case turn =>
    rintro k zs nw v I oI C oC D2 m₂ h tk E' hk ⟨hnw, hz⟩ ⟨t, rfl⟩ h3 h4 h5 h6 h7 h8
    rw [hnw] at h6 h7
    clear hnw
    rw [hbase] at h6
    have hk1 : (1 + (k : Int)).toNat = k + 1 := by omega
    clear N10 N9 F9 R9
    (repeat' (first | (k_unfold; (try dsimp only)) | (k_end; wrow_close) | with_reducible ((with_reducible show wpAny _ _ (eval (PySem.Expr.ListComp _ _ _ _ ) _) _ _ _); k_dflt (refine LCt.ListComp_T (F₀ := by k_asm) (by with_unfolding_all rfl) (by decide) (by rfl) (by decide) (by rfl) ?_)) | with_reducible ((with_reducible show wpAny _ _ (subscriptTail _ _ (Value.ref _) (Value.int _ _)) _ _ _); (with_unfolding_all refine' list_atU ?N ?hm ?h0 ?hz ?hx ?_ ?k6 ?k7; (case N => k_asm); (case hm => k_mem); (case h0 => first | assumption | omega); (case hz => first | assumption | omega); (case hx => assumption); (case k6 => first | exact sub_binop | with_unfolding_all rfl); (case k7 => intro _; with_unfolding_all rfl); k_whole; intro uIq9)) | with_reducible ((with_reducible show wpAny _ _ (call _ _) _ _ _); k_dflt (refine' len_led ?N ?hm ?e ?hz ?_; (case N => k_asm); (case hm => k_mem); (case e => first | (rw [List.size_toArray, List.length_map]) | (rw [List.size_toArray]; assumption) | exact List.size_toArray); (case hz => omega)); intro uLq9) | with_reducible ((with_reducible show wpAny _ _ (subscriptTail _ _ (Value.ref _) (Value.ref _)) _ _ _); (with_unfolding_all refine' slice_intsP ?F ?N ?hl ?hi ?pl ?pu ?pt ?hz ?hm ?_ ?k6 ?k7; (case F => k_asm); (case N => k_asm); (case hl => exact News.isList (by k_asm) (by k_mem)); (case hi => assumption); (case pl => constructor); (case pu => constructor); (case pt => constructor); (case hz => omega); (case hm => first | exact kmk_from_neg (by assumption) (by decide) | exact kmk_upto_neg (by assumption) (by decide) | exact kmk_from (by assumption) (by omega) | exact kmk_upto (by assumption) (by omega)); (case k6 => with_unfolding_all rfl); (case k7 => intro _; with_unfolding_all rfl); k_whole); intro Dq9 wsq9 hq9 Fq9 Nq9 l1q9 hIq9; (try k_lt l1q9); (try k_sweep)) | with_reducible ((with_reducible show wpAny _ _ (binaryOp _ (Value.ref _) (Value.ref _)) _ _ _); k_dflt (refine' kmk_add_ints ?F ?N ?a ?b ?i ?j ?_ ?z; (case F => k_asm); (case N => k_asm); (case a => exact News.isList (by k_asm) (by k_mem)); (case b => exact News.isList (by k_asm) (by k_mem)); (case i => assumption); (case j => assumption); (case z => (rw [sizeLine_eq]; simp only [List.length_drop, List.length_take]; omega))); intro Dq9 wsq9 hq9 Fq9 Nq9 l1q9 hIq9; (try k_lt l1q9); (try k_sweep)) | with_reducible ((with_reducible show wpAny _ _ (compareOp CmpOp.Eq (Value.ref _) (Value.ref _)) _ _ _); k_dflt (refine' eq_ints_led ?N ?ha ?hb ?hi ?hj ?hu ?_; (case N => k_asm); (case ha => k_mem); (case hb => k_mem); (case hi => assumption); (case hj => assumption); (case hu => ke_room))) | walk1 | (dsimp only; walk1) | (leave1; (try dsimp only)) | fail))
    · unfold Halt
      rename Fr _ _ _ _ => F7
      rename News _ _ _ _ => N7
      refine LCg.CompEnd.intro F7 N7 base (fun p hp => ?_) h7 trivial ⟨rfl, ?_⟩
      · rw [hbase] at hp
        repeat (first | exact hp | apply List.mem_cons_of_mem)
      · rw [perI_yes (by assumption)]; exact ints_snoc hz
    · unfold Halt
      rename Fr _ _ _ _ => F7
      rename News _ _ _ _ => N7
      refine LCg.CompEnd.intro F7 N7 base (fun p hp => ?_) h7 trivial ⟨rfl, ?_⟩
      · rw [hbase] at hp
        repeat (first | exact hp | apply List.mem_cons_of_mem)
      · rw [perI_no (by assumption)]; exact hz
  case fin =>
    rintro zs nw ⟨hnw, hz⟩
    intro D2 h tk F3 N3 O3
    rw [show ((a0.2.2.2.length : Int) + 1 - 1).toNat = a0.2.2.2.length by omega] at hz
    rw [hnw, hbase] at N3
    clear hnw N10 N9 F9 O3 R9
    have N4 : News h₀ L h ((D2, W.listOf zs.toArray zs.length) :: _) := N3
    clear N3
    have hzl := hz.length
    have hpp : perI a0.2.2.2 a0.2.2.2.length = (periods a0.2.2.2).map fun (k : Nat) => (k : Int) := rfl
    dsimp only
    have hp1 : 0 < (perI a0.2.2.2 a0.2.2.2.length).length := by
      rw [hpp, List.length_map]
      cases e : periods a0.2.2.2 with
      | nil => rw [e] at hper; cases hper
      | cons x r => simp
    (repeat' (first | (k_unfold; (try dsimp only)) | (k_end; wrow_close) | with_reducible ((with_reducible show wpAny _ _ (eval (PySem.Expr.ListComp _ _ _ _ ) _) _ _ _); k_dflt (refine LCt.ListComp_T (F₀ := by k_asm) (by with_unfolding_all rfl) (by decide) (by rfl) (by decide) (by rfl) ?_)) | with_reducible ((with_reducible show wpAny _ _ (subscriptTail _ _ (Value.ref _) (Value.int _ _)) _ _ _); (with_unfolding_all refine' list_atU ?N ?hm ?h0 ?hz ?hx ?_ ?k6 ?k7; (case N => k_asm); (case hm => k_mem); (case h0 => first | assumption | omega); (case hz => first | assumption | omega); (case hx => assumption); (case k6 => first | exact sub_binop | with_unfolding_all rfl); (case k7 => intro _; with_unfolding_all rfl); k_whole; intro uIq9)) | with_reducible ((with_reducible show wpAny _ _ (call _ _) _ _ _); k_dflt (refine' len_led ?N ?hm ?e ?hz ?_; (case N => k_asm); (case hm => k_mem); (case e => first | (rw [List.size_toArray, List.length_map]) | (rw [List.size_toArray]; assumption) | exact List.size_toArray); (case hz => omega)); intro uLq9) | with_reducible ((with_reducible show wpAny _ _ (subscriptTail _ _ (Value.ref _) (Value.ref _)) _ _ _); (with_unfolding_all refine' slice_intsP ?F ?N ?hl ?hi ?pl ?pu ?pt ?hz ?hm ?_ ?k6 ?k7; (case F => k_asm); (case N => k_asm); (case hl => exact News.isList (by k_asm) (by k_mem)); (case hi => assumption); (case pl => constructor); (case pu => constructor); (case pt => constructor); (case hz => omega); (case hm => first | exact kmk_from_neg (by assumption) (by decide) | exact kmk_upto_neg (by assumption) (by decide) | exact kmk_from (by assumption) (by omega) | exact kmk_upto (by assumption) (by omega)); (case k6 => with_unfolding_all rfl); (case k7 => intro _; with_unfolding_all rfl); k_whole); intro Dq9 wsq9 hq9 Fq9 Nq9 l1q9 hIq9; (try k_lt l1q9); (try k_sweep)) | with_reducible ((with_reducible show wpAny _ _ (binaryOp _ (Value.ref _) (Value.ref _)) _ _ _); k_dflt (refine' kmk_add_ints ?F ?N ?a ?b ?i ?j ?_ ?z; (case F => k_asm); (case N => k_asm); (case a => exact News.isList (by k_asm) (by k_mem)); (case b => exact News.isList (by k_asm) (by k_mem)); (case i => assumption); (case j => assumption); (case z => (rw [sizeLine_eq]; simp only [List.length_drop, List.length_take]; omega))); intro Dq9 wsq9 hq9 Fq9 Nq9 l1q9 hIq9; (try k_lt l1q9); (try k_sweep)) | with_reducible ((with_reducible show wpAny _ _ (compareOp CmpOp.Eq (Value.ref _) (Value.ref _)) _ _ _); k_dflt (refine' eq_ints_led ?N ?ha ?hb ?hi ?hj ?hu ?_; (case N => k_asm); (case ha => k_mem); (case hb => k_mem); (case hi => assumption); (case hj => assumption); (case hu => ke_room))) | walk1 | (dsimp only; walk1) | (leave1; (try dsimp only)) | fail))
    rename Int => M5
    rename M5 ∈ _ => a5
    rename ∀ a, a ∈ _ → M5 ≤ a => b5
    rename Fr _ _ _ _ => F7
    have hM : M5 = (ys.length : Int) := min_head hper (hpp ▸ a5) (hpp ▸ b5)
    rw [hM, show ((ys.length : Int) == (ys.length : Int)) = true from beq_self_eq_true _]
    exact cont _ _ _ F7
end
section
set_option linter.unusedVariables false
set_option maxRecDepth 100000
set_option maxHeartbeats 4000000
theorem extraOf_len {ds : List Int} {t : Int} : (extraOf ds t).length ≤ 8 := by
  unfold extraOf
  split
  · unfold extraL
    rw [List.length_map, List.length_range]
    unfold stepsOf
    split
    · decide
    · split <;> decide
  · exact Nat.zero_le _
theorem getD_map_some {α β : Type} {f : α → β} {l : List α} {k : Nat} {a : α} {d : β} (h : l[k]? = some a) : (l.map f).getD k d = f a := by
  rw [List.getD_eq_getElem?_getD, List.getElem?_map, h]; rfl
theorem getD_mem {l : List Int} (h : 0 < l.length) : l.getD 0 0 ∈ l := by
  cases l with
  | nil => cases h
  | cons x r => exact .head _
theorem rb1 {α : Type} {Dl Ds Dd Dp Dh Dm c1 c2 c3 c4 c5 c6 c7 c8 c9 c10 : α} {w t : List α} (hD : Dm ∈ t) (hw : ∀ p ∈ w, p ∈ t) : ∀ p ∈ Dm :: Dd :: c1 :: c2 :: c3 :: c4 :: c5 :: c6 :: c7 :: c8 :: c9 :: c10 :: (w ++ (Ds :: t)), p ∈ Dl :: Ds :: Dd :: Dp :: Dh :: c1 :: c2 :: c3 :: c4 :: c5 :: c6 :: c7 :: c8 :: c9 :: c10 :: t := List.forall_mem_cons.mpr ⟨.tail _ (.tail _ (.tail _ (.tail _ (.tail _ (.tail _ (.tail _ (.tail _ (.tail _ (.tail _ (.tail _ (.tail _ (.tail _ (.tail _ (.tail _ (hD))))))))))))))), List.forall_mem_cons.mpr ⟨.tail _ (.tail _ (.head _)), List.forall_mem_cons.mpr ⟨.tail _ (.tail _ (.tail _ (.tail _ (.tail _ (.head _))))), List.forall_mem_cons.mpr ⟨.tail _ (.tail _ (.tail _ (.tail _ (.tail _ (.tail _ (.head _)))))), List.forall_mem_cons.mpr ⟨.tail _ (.tail _ (.tail _ (.tail _ (.tail _ (.tail _ (.tail _ (.head _))))))), List.forall_mem_cons.mpr ⟨.tail _ (.tail _ (.tail _ (.tail _ (.tail _ (.tail _ (.tail _ (.tail _ (.head _)))))))), List.forall_mem_cons.mpr ⟨.tail _ (.tail _ (.tail _ (.tail _ (.tail _ (.tail _ (.tail _ (.tail _ (.tail _ (.head _))))))))), List.forall_mem_cons.mpr ⟨.tail _ (.tail _ (.tail _ (.tail _ (.tail _ (.tail _ (.tail _ (.tail _ (.tail _ (.tail _ (.head _)))))))))), List.forall_mem_cons.mpr ⟨.tail _ (.tail _ (.tail _ (.tail _ (.tail _ (.tail _ (.tail _ (.tail _ (.tail _ (.tail _ (.tail _ (.head _))))))))))), List.forall_mem_cons.mpr ⟨.tail _ (.tail _ (.tail _ (.tail _ (.tail _ (.tail _ (.tail _ (.tail _ (.tail _ (.tail _ (.tail _ (.tail _ (.head _)))))))))))), List.forall_mem_cons.mpr ⟨.tail _ (.tail _ (.tail _ (.tail _ (.tail _ (.tail _ (.tail _ (.tail _ (.tail _ (.tail _ (.tail _ (.tail _ (.tail _ (.head _))))))))))))), List.forall_mem_cons.mpr ⟨.tail _ (.tail _ (.tail _ (.tail _ (.tail _ (.tail _ (.tail _ (.tail _ (.tail _ (.tail _ (.tail _ (.tail _ (.tail _ (.tail _ (.head _)))))))))))))), fun p hp => (List.mem_append.mp hp).elim (fun hp => .tail _ (.tail _ (.tail _ (.tail _ (.tail _ (.tail _ (.tail _ (.tail _ (.tail _ (.tail _ (.tail _ (.tail _ (.tail _ (.tail _ (.tail _ (hw p hp)))))))))))))))) (fun hp => (List.mem_cons.mp hp).elim (fun e => e ▸ .tail _ (.head _)) (fun hp => .tail _ (.tail _ (.tail _ (.tail _ (.tail _ (.tail _ (.tail _ (.tail _ (.tail _ (.tail _ (.tail _ (.tail _ (.tail _ (.tail _ (.tail _ (hp)))))))))))))))))⟩⟩⟩⟩⟩⟩⟩⟩⟩⟩⟩⟩
theorem rb2 {α : Type} {Ds Dd Dm c1 c2 c3 c4 c5 c6 c7 c8 c9 c10 : α} {w t : List α} : ∀ p ∈ Ds :: c1 :: c2 :: c3 :: c4 :: c5 :: c6 :: c7 :: c8 :: c9 :: c10 :: (Dm :: t), p ∈ Dm :: Dd :: c1 :: c2 :: c3 :: c4 :: c5 :: c6 :: c7 :: c8 :: c9 :: c10 :: (w ++ (Ds :: t)) := List.forall_mem_cons.mpr ⟨.tail _ (.tail _ (.tail _ (.tail _ (.tail _ (.tail _ (.tail _ (.tail _ (.tail _ (.tail _ (.tail _ (.tail _ (List.mem_append_right _ (.head _))))))))))))), List.forall_mem_cons.mpr ⟨.tail _ (.tail _ (.head _)), List.forall_mem_cons.mpr ⟨.tail _ (.tail _ (.tail _ (.head _))), List.forall_mem_cons.mpr ⟨.tail _ (.tail _ (.tail _ (.tail _ (.head _)))), List.forall_mem_cons.mpr ⟨.tail _ (.tail _ (.tail _ (.tail _ (.tail _ (.head _))))), List.forall_mem_cons.mpr ⟨.tail _ (.tail _ (.tail _ (.tail _ (.tail _ (.tail _ (.head _)))))), List.forall_mem_cons.mpr ⟨.tail _ (.tail _ (.tail _ (.tail _ (.tail _ (.tail _ (.tail _ (.head _))))))), List.forall_mem_cons.mpr ⟨.tail _ (.tail _ (.tail _ (.tail _ (.tail _ (.tail _ (.tail _ (.tail _ (.head _)))))))), List.forall_mem_cons.mpr ⟨.tail _ (.tail _ (.tail _ (.tail _ (.tail _ (.tail _ (.tail _ (.tail _ (.tail _ (.head _))))))))), List.forall_mem_cons.mpr ⟨.tail _ (.tail _ (.tail _ (.tail _ (.tail _ (.tail _ (.tail _ (.tail _ (.tail _ (.tail _ (.head _)))))))))), List.forall_mem_cons.mpr ⟨.tail _ (.tail _ (.tail _ (.tail _ (.tail _ (.tail _ (.tail _ (.tail _ (.tail _ (.tail _ (.tail _ (.head _))))))))))), List.forall_mem_cons.mpr ⟨.head _, fun p hp => .tail _ (.tail _ (.tail _ (.tail _ (.tail _ (.tail _ (.tail _ (.tail _ (.tail _ (.tail _ (.tail _ (.tail _ (List.mem_append_right _ (.tail _ hp)))))))))))))⟩⟩⟩⟩⟩⟩⟩⟩⟩⟩⟩⟩
theorem rb3 {α : Type} {Ds De Dm c1 c2 c3 c4 c5 c6 c7 c8 c9 c10 : α} {m t : List α} : ∀ p ∈ De :: Ds :: Dm :: c1 :: c2 :: c3 :: c4 :: c5 :: c6 :: c7 :: c8 :: c9 :: c10 :: (t ++ m), p ∈ De :: Ds :: c1 :: c2 :: c3 :: c4 :: c5 :: c6 :: c7 :: c8 :: c9 :: c10 :: ((Dm :: t) ++ m) := List.forall_mem_cons.mpr ⟨.head _, List.forall_mem_cons.mpr ⟨.tail _ (.head _), List.forall_mem_cons.mpr ⟨.tail _ (.tail _ (.tail _ (.tail _ (.tail _ (.tail _ (.tail _ (.tail _ (.tail _ (.tail _ (.tail _ (.tail _ (List.mem_append_left _ (.head _))))))))))))), List.forall_mem_cons.mpr ⟨.tail _ (.tail _ (.head _)), List.forall_mem_cons.mpr ⟨.tail _ (.tail _ (.tail _ (.head _))), List.forall_mem_cons.mpr ⟨.tail _ (.tail _ (.tail _ (.tail _ (.head _)))), List.forall_mem_cons.mpr ⟨.tail _ (.tail _ (.tail _ (.tail _ (.tail _ (.head _))))), List.forall_mem_cons.mpr ⟨.tail _ (.tail _ (.tail _ (.tail _ (.tail _ (.tail _ (.head _)))))), List.forall_mem_cons.mpr ⟨.tail _ (.tail _ (.tail _ (.tail _ (.tail _ (.tail _ (.tail _ (.head _))))))), List.forall_mem_cons.mpr ⟨.tail _ (.tail _ (.tail _ (.tail _ (.tail _ (.tail _ (.tail _ (.tail _ (.head _)))))))), List.forall_mem_cons.mpr ⟨.tail _ (.tail _ (.tail _ (.tail _ (.tail _ (.tail _ (.tail _ (.tail _ (.tail _ (.head _))))))))), List.forall_mem_cons.mpr ⟨.tail _ (.tail _ (.tail _ (.tail _ (.tail _ (.tail _ (.tail _ (.tail _ (.tail _ (.tail _ (.head _)))))))))), List.forall_mem_cons.mpr ⟨.tail _ (.tail _ (.tail _ (.tail _ (.tail _ (.tail _ (.tail _ (.tail _ (.tail _ (.tail _ (.tail _ (.head _))))))))))), fun p hp => (List.mem_append.mp hp).elim (fun hp => .tail _ (.tail _ (.tail _ (.tail _ (.tail _ (.tail _ (.tail _ (.tail _ (.tail _ (.tail _ (.tail _ (.tail _ (List.mem_append_left _ (.tail _ hp)))))))))))))) (fun hp => .tail _ (.tail _ (.tail _ (.tail _ (.tail _ (.tail _ (.tail _ (.tail _ (.tail _ (.tail _ (.tail _ (.tail _ (List.mem_append_right _ hp)))))))))))))⟩⟩⟩⟩⟩⟩⟩⟩⟩⟩⟩⟩⟩
theorem rb4 {α : Type} {Ds De Dm c1 c2 c3 c4 c5 c6 c7 c8 c9 c10 : α} {r : List α} : ∀ p ∈ De :: Dm :: c1 :: c2 :: c3 :: c4 :: c5 :: c6 :: c7 :: c8 :: c9 :: c10 :: r, p ∈ De :: Ds :: Dm :: c1 :: c2 :: c3 :: c4 :: c5 :: c6 :: c7 :: c8 :: c9 :: c10 :: r := List.forall_mem_cons.mpr ⟨.head _, List.forall_mem_cons.mpr ⟨.tail _ (.tail _ (.head _)), List.forall_mem_cons.mpr ⟨.tail _ (.tail _ (.tail _ (.head _))), List.forall_mem_cons.mpr ⟨.tail _ (.tail _ (.tail _ (.tail _ (.head _)))), List.forall_mem_cons.mpr ⟨.tail _ (.tail _ (.tail _ (.tail _ (.tail _ (.head _))))), List.forall_mem_cons.mpr ⟨.tail _ (.tail _ (.tail _ (.tail _ (.tail _ (.tail _ (.head _)))))), List.forall_mem_cons.mpr ⟨.tail _ (.tail _ (.tail _ (.tail _ (.tail _ (.tail _ (.tail _ (.head _))))))), List.forall_mem_cons.mpr ⟨.tail _ (.tail _ (.tail _ (.tail _ (.tail _ (.tail _ (.tail _ (.tail _ (.head _)))))))), List.forall_mem_cons.mpr ⟨.tail _ (.tail _ (.tail _ (.tail _ (.tail _ (.tail _ (.tail _ (.tail _ (.tail _ (.head _))))))))), List.forall_mem_cons.mpr ⟨.tail _ (.tail _ (.tail _ (.tail _ (.tail _ (.tail _ (.tail _ (.tail _ (.tail _ (.tail _ (.head _)))))))))), List.forall_mem_cons.mpr ⟨.tail _ (.tail _ (.tail _ (.tail _ (.tail _ (.tail _ (.tail _ (.tail _ (.tail _ (.tail _ (.tail _ (.head _))))))))))), List.forall_mem_cons.mpr ⟨.tail _ (.tail _ (.tail _ (.tail _ (.tail _ (.tail _ (.tail _ (.tail _ (.tail _ (.tail _ (.tail _ (.tail _ (.head _)))))))))))), fun p hp => .tail _ (.tail _ (.tail _ (.tail _ (.tail _ (.tail _ (.tail _ (.tail _ (.tail _ (.tail _ (.tail _ (.tail _ (.tail _ (hp)))))))))))))⟩⟩⟩⟩⟩⟩⟩⟩⟩⟩⟩⟩
theorem back_law {w : World} {p : Program} {loose : List PySem.Str} {mean : ExcName → Option Value} {mg mb : PySem.Str → Option Value} (dp un : Nat) (gd : Option (List Code)) (aa : Addr) (ccd : Value) (outer : List Env) (A₀ : Around) (base h₀ : Heap) (L : Addr) (s : Shared) (Dl Ds Dh : Addr) (vh : List Value) (c1 c6 c8 c9 c10 : Obj) (v1 : Option Value) (CL : List Int) (Tm k0 : Nat) (pl : Plan CL Tm k0) (tt : Tok) (m₀ : PySem.Str → Option Value) (u : Option Value) (a : LSt) (Q : Flow → Shared → Prop)
    (B : Below A₀ base outer h₀) (X : (K w.params).In h₀) (T : Top p loose mean mg mb h₀) (hd : dp + 100 < recursionLimit) (hu : un + 400 < cLine) (d1 : c1.data = .cell v1) (d8 : c8.data = .cell (some (.int CL.sum tt)))
    (ht1 : 1 ≤ CL.sum) (ht8 : CL.sum ≤ 8) (dn : LDn w.params L Ds CL Tm k0 a)
    (F : Fr h₀ L s.heap (fun y => if y = .ofString "turn" then u else ovr (lOv Ds a) m₀ y)) (N : News h₀ L s.heap (lNW L Dl Ds Dh vh c1 c6 c8 c9 c10 a))
    (hret : ∀ h' tk' m', Fr h₀ L h' m' → Q (.ret (.bool true)) { s with heap := h', toks := tk' }) :
    wpAny (model pw w) (ktrTop dp un gd (.ofString "law") lawScope L aa ccd (cellsFrom (L + 1) lawScope.names []) outer) (execs (lawBody.drop 11) (envOfC (.ofString "law") lawScope L aa ccd)) Q (fun _ _ => False) s := by
  obtain ⟨sl, hst, vdI, tl, o, Dm, tm, x, t, r, hr, hx, hio, hno, hws, e4, e5, hDm, hDmc⟩ := dn
  rw [Int.zero_add] at hDm
  simp only [lNW] at N
  have tp := pl.tn Tm (Nat.le_refl _)
  have hdl := tp.dlen
  have hdl1 := tp.l1
  have hdl8 := tp.l8
  have hl8 := tp.last8
  generalize hM : (fun y => if y = PySem.Str.ofString "turn" then u else ovr (lOv Ds a) m₀ y) = M at F
  have md : M (.ofString "due") = some (.ref a.Dd) := by
    rw [← hM]; show (if _ then _ else _) = _
    rw [if_neg (by decide)]; unfold lOv; rw [ovr_cons, if_pos rfl]
  have ms : M (.ofString "states") = some (.ref Ds) := by
    rw [← hM]; show (if _ then _ else _) = _
    rw [if_neg (by decide)]; unfold lOv; rw [ovr_cons, if_neg (by decide), ovr_cons, if_pos rfl]
  have ml : M (.ofString "line") = some (.str x t) := by
    rw [← hM]; show (if _ then _ else _) = _
    rw [if_neg (by decide)]; unfold lOv; rw [ovr_cons, if_neg (by decide), ovr_cons, if_neg (by decide), hr, ovr_cons, if_pos rfl]
  have hg0 : 1 ≤ (dueS (sizesAt CL Tm)).getD 0 0 ∧ (dueS (sizesAt CL Tm)).getD 0 0 ≤ 8 := tp.s8 _ (tp.dperm.subset (getD_mem (by omega)))
  refine back1 dp un gd aa ccd outer A₀ base h₀ L s c1 a.c2 a.c3 a.c4 a.c5 c6 a.c7 c8 c9 c10 M ((Ds, W.listOf (a.sts.map fun e => Value.ref e.1).toArray a.ns) :: a.tail) Dm a.Dd k0 (lastI (dueS (sizesAt CL Tm))) tm t 1 a.nd a.vd (dueS (sizesAt CL Tm)) x o Q (fun _ _ => False) B F X (news_sub N (rb1 hDm hws)) T hd hu md ml e5 e4 hio vdI (by omega) (by omega) tp.dlast (by omega) hl8.2 (by omega) hg0.2 (by rw [list_len hx]; exact tp.line ht8) ?hq1 ?hq2 ?_
  case hq1 =>
    rw [wsN_norm, wsN_norm, run_list hx (by omega) hg0.2, run_list hx (by omega) hl8.2]
    exact pl.q1
  case hq2 =>
    rw [wsN_norm, two_list hx, hno]
    exact pl.q2
  intro h1 tk1 F1 N1
  clear N F
  have hst2 : ∀ e ∈ a.sts, leObj e ∈ ((Dm, W.listOf #[Value.int (k0 : Int) tm] 1) :: a.tail) ∧ IntsAre e.2.1 e.2.2.2 ∧ List.Pairwise (fun x y => x ≤ y) e.2.2.2 ∧ e.2.2.2.length ≤ 8 := fun e he => by
    obtain ⟨k, hk⟩ := List.mem_iff_getElem?.mp he
    obtain ⟨b1, b2, b3⟩ := hst k e hk
    have hkl : k < a.sts.length := (List.getElem?_eq_some_iff.mp hk).1
    have tk := pl.tn k (by omega)
    refine ⟨.tail _ b1, b2, by rw [b3]; exact tk.dsort, ?_⟩
    rw [b3, tk.dlen]; exact tk.l8
  have hT24 := pl.T24
  have hk0T := pl.k0T
  refine back2 dp un gd aa ccd outer A₀ base h₀ L _ c1 a.c2 a.c3 a.c4 a.c5 c6 a.c7 c8 c9 c10 M ((Dm, W.listOf #[Value.int (k0 : Int) tm] 1) :: a.tail) Ds (a.sts.map fun e => Value.ref e.1) a.ns a.sts CL.sum tt Q (fun _ _ => False) B F1 X (news_sub N1 rb2) T hd hu ms d8 rfl (by omega) hst2 ht1 ht8 ?_
  intro De xs h2 tk2 hxs hxi hxn hDe F2 N2
  clear N1 F1
  have hexS : a.sts.map (fun e => extraOf e.2.2.2 CL.sum) = extrasS CL Tm := by
    unfold extrasS
    apply List.ext_getElem?
    intro k
    rw [List.getElem?_map, List.getElem?_map]
    rcases Nat.lt_or_ge k Tm with hk | hk
    · have hko : k < a.sts.length := by omega
      have hq : a.sts[k]? = some a.sts[k] := List.getElem?_eq_getElem hko
      rw [hq, List.getElem?_range hk]
      show some _ = some _
      dsimp only
      rw [(hst k _ hq).2.2]
    · rw [List.getElem?_eq_none (by omega), List.getElem?_eq_none (by rw [List.length_range]; omega)]; rfl
  rw [hexS] at hxs
  have hxl : xs.length = Tm := by
    have := congrArg List.length hxs
    unfold extrasS at this
    rw [List.length_map, List.length_map, List.length_range] at this
    exact this
  have hb : xs.map (fun x => !decide (x.2.2.2 = [])) = (List.range xs.length).map (fun (k : Nat) => decide ((k0 : Int) ≤ 0 + (k : Int))) := by
    have h := pl.ex
    rw [← hxs, List.map_map] at h
    rw [hxl]
    exact h
  have hxt : ∀ x ∈ xs, leObj x ∈ a.tail ++ xs.map leObj := fun x hx => List.mem_append_right _ (List.mem_map.mpr ⟨x, hx, rfl⟩)
  have mx : upd M (.ofString "extras") (.ref De) (.ofString "extras") = some (.ref De) := upd_at
  refine back3 dp un gd aa ccd outer A₀ base h₀ L _ c1 a.c2 a.c3 a.c4 a.c5 c6 a.c7 c8 c9 c10 _ (a.tail ++ xs.map leObj) De Ds Dm (a.sts.map fun e => Value.ref e.1) a.ns 1 xs k0 tm Q (fun _ _ => False) B F2 X (news_sub N2 rb3) T hd hu mx ((upd_ne (by decide)).trans ms) e5 (by rw [List.length_map, sl, hxl]) (by omega) hxt hxi hb ?_
  intro h3 tk3 F3 N3
  clear N2 F2
  have ht10 : ∀ q ∈ a.tail ++ xs.map leObj, q.1 ≠ L + 1 + 1 + 1 + 1 + 1 + 1 + 1 + 1 + 1 + 1 := fun q hq => by
    rcases List.mem_append.mp hq with hq | hq
    · exact tl q hq
    · obtain ⟨e, he, rfl⟩ := List.mem_map.mp hq
      exact Ne.symm (hxn e he).1
  refine back4 dp un gd aa ccd outer A₀ base h₀ L _ c1 a.c2 a.c3 a.c4 a.c5 c6 a.c7 c8 c9 c10 _ (a.tail ++ xs.map leObj) De Dm 1 xs k0 tm v1 Q (fun _ _ => False) B F3 X (news_sub N3 rb4) T hd hu mx e5 d1 (by omega) (by omega) (by omega) hDe.1 hDmc ht10 ?_
  intro Dr c1' h4 tk4 d1' F4 N4
  clear N3 F3
  rw [Int.toNat_natCast, ← List.map_drop] at N4
  have hyl : (xs.drop k0).length = Tm - k0 := by rw [List.length_drop, hxl]
  have hyd : (extrasS CL Tm).drop k0 = (xs.drop k0).map (·.2.2.2) := by rw [← hxs, List.map_drop]
  have hys : ∀ y ∈ xs.drop k0, leObj y ∈ a.tail ++ xs.map leObj ∧ IntsAre y.2.1 y.2.2.2 ∧ y.2.2.2.length ≤ 8 := fun y hy => by
    have hy2 := List.mem_of_mem_drop hy
    refine ⟨hxt y hy2, hxi y hy2, ?_⟩
    have h : y.2.2.2 ∈ extrasS CL Tm := hxs ▸ List.mem_map.mpr ⟨y, hy2, rfl⟩
    unfold extrasS at h
    obtain ⟨k, _, hk⟩ := List.mem_map.mp h
    rw [← hk]; exact extraOf_len
  have hrot : ∀ k a b, k < (xs.drop k0).length → (xs.drop k0)[k]? = some a → (xs.drop k0)[(k + 1) % (xs.drop k0).length]? = some b → b.2.2.2 = rotI a.2.2.2 := fun k a b hk ha hb => by
    have h := pl.rot k (by omega)
    rw [hyd, ← hyl, getD_map_some ha, getD_map_some hb] at h
    exact h
  refine back5 dp un gd aa ccd outer A₀ base h₀ L _ c1' a.c2 a.c3 a.c4 a.c5 c6 a.c7 c8 c9 c10 _ (a.tail ++ xs.map leObj) Dr 0 (xs.drop k0) Q B F4 X N4 T hd hu d1' (by omega) (by omega) hys hrot ?_
  intro m5 h5 tk5 F5 N5
  have h0l : 0 < (xs.drop k0).length := by omega
  have ha0 : (xs.drop k0)[0]? = some (xs.drop k0)[0] := List.getElem?_eq_getElem h0l
  obtain ⟨z1, z2, z3⟩ := hys _ (List.mem_of_getElem? ha0)
  have hper : (periods (xs.drop k0)[0].2.2.2).head? = some (xs.drop k0).length := by
    have h := pl.per
    rw [hyd, getD_map_some ha0, ← hyl] at h
    exact h
  exact back6 dp un gd aa ccd outer A₀ base h₀ L _ c1' a.c2 a.c3 a.c4 a.c5 c6 a.c7 c8 c9 c10 _ (a.tail ++ xs.map leObj) Dr 0 (xs.drop k0) _ Q (fun _ _ => False) B F5 X N5 T hd hu d1' (by omega) ha0 z1 z2 z3 hper (fun h' tk' m' F' => hret h' tk' m' F')
end
section
set_option linter.unusedVariables false
set_option maxRecDepth 100000
set_option maxHeartbeats 4000000
local macro_rules | `(tactic| walk_at "pyIter ref") => `(tactic| walk_at "mine.1")
local macro_rules | `(tactic| walk_at "TurnT") => `(tactic| walk_at "mine.1")
theorem haltLl {M : Model} {A : Around} {q1 : Pos} {c : PySem.Expr} {b1 : List Stmt} {b2 : List Stmt} {r : List Stmt} {env : Env} {Q : Flow → Shared → Prop} {E : Value → Shared → Prop} {s : Shared} (h : Halt (wpAny M A (execs (Stmt.If c b1 b2 q1 :: r) env) Q E s)) : wpAny M A (execs (Stmt.If c b1 b2 q1 :: r) env) Q E s := h
local macro_rules | `(tactic| walk_at "execs cons") => `(tactic| (with_reducible refine haltLl ?_))
theorem law_loop {w : World} {p : Program} {loose : List PySem.Str} {mean : ExcName → Option Value} {mg mb : PySem.Str → Option Value} (dp un : Nat) (gd : Option (List Code)) (a : Addr) (ccd : Value) (outer : List Env) (A₀ : Around) (base h₀ : Heap) (L : Addr) (s : Shared) (c1 c2 c3 c4 c5 c6 c7 c8 c9 c10 : Obj) (Dd Dp Dh : Addr) (vd vp vh : List Value) (nd np : Nat) (hs ds CL : List Int) (xs : List PySem.Str) (tt : Tok) (m0 : PySem.Str → Option Value)
    (Q : Flow → Shared → Prop) (B : Below A₀ base outer h₀) (F : Fr h₀ L s.heap (ovr [(.ofString "due", .ref Dd)] m0)) (X : (K w.params).In h₀) (N : News h₀ L s.heap [(Dd, W.listOf vd.toArray nd), (Dp, W.listOf vp.toArray np), (Dh, W.listOf vh.toArray 4), (L + 1 + 1 + 1 + 1 + 1 + 1 + 1 + 1 + 1 + 1, c1), (L + 1 + 1 + 1 + 1 + 1 + 1 + 1 + 1 + 1, c2), (L + 1 + 1 + 1 + 1 + 1 + 1 + 1 + 1, c3), (L + 1 + 1 + 1 + 1 + 1 + 1 + 1, c4), (L + 1 + 1 + 1 + 1 + 1 + 1, c5), (L + 1 + 1 + 1 + 1 + 1, c6), (L + 1 + 1 + 1 + 1, c7), (L + 1 + 1 + 1, c8), (L + 1 + 1, c9), (L + 1, c10)]) (T : Top p loose mean mg mb h₀) (hd : dp + 100 < recursionLimit) (hu : un + 400 < cLine)
    (dh : c10.data = .cell (some (.ref Dh))) (dt : c8.data = .cell (some (.int CL.sum tt))) (dp' : c7.data = .cell (some (.ref Dp))) (e6 : c6.data = .cell none) (e5 : c5.data = .cell none) (e4 : c4.data = .cell none) (e3 : c3.data = .cell none) (e2 : c2.data = .cell none) (e1 : c1.data = .cell none)
    (hvh : IntsAre vh hs) (hhs : hs.length = 4) (hvd : IntsAre vd ds) (hds : ds.Perm CL) (hdo : List.Pairwise (fun x y => x ≤ y) ds) (hvp : StrsAre vp xs) (hxs : PilesAre xs CL) (hCL : CL ∈ cardSets)
    (g1 : @Ne Nat (L + 1 + 1 + 1 + 1 + 1 + 1 + 1 + 1 + 1 + 1) Dh ∧ @Ne Nat (L + 1 + 1 + 1 + 1 + 1 + 1 + 1 + 1 + 1) Dh ∧ @Ne Nat (L + 1 + 1 + 1 + 1 + 1 + 1 + 1 + 1) Dh ∧ @Ne Nat (L + 1 + 1 + 1 + 1 + 1 + 1 + 1) Dh ∧ @Ne Nat (L + 1 + 1 + 1 + 1 + 1 + 1) Dh ∧ @Ne Nat (L + 1 + 1 + 1 + 1 + 1) Dh ∧ @Ne Nat (L + 1 + 1 + 1 + 1) Dh ∧ @Ne Nat (L + 1 + 1 + 1) Dh ∧ @Ne Nat (L + 1 + 1) Dh ∧ @Ne Nat (L + 1) Dh) (g2 : @Ne Nat (L + 1 + 1 + 1 + 1 + 1 + 1 + 1 + 1 + 1 + 1) Dp ∧ @Ne Nat (L + 1 + 1 + 1 + 1 + 1 + 1 + 1 + 1 + 1) Dp ∧ @Ne Nat (L + 1 + 1 + 1 + 1 + 1 + 1 + 1 + 1) Dp ∧ @Ne Nat (L + 1 + 1 + 1 + 1 + 1 + 1 + 1) Dp ∧ @Ne Nat (L + 1 + 1 + 1 + 1 + 1 + 1) Dp ∧ @Ne Nat (L + 1 + 1 + 1 + 1 + 1) Dp ∧ @Ne Nat (L + 1 + 1 + 1 + 1) Dp ∧ @Ne Nat (L + 1 + 1 + 1) Dp ∧ @Ne Nat (L + 1 + 1) Dp ∧ @Ne Nat (L + 1) Dp) (g3 : @LT.lt Nat _ (L + 1 + 1 + 1 + 1 + 1 + 1 + 1 + 1 + 1 + 1) Dd ∧ @LT.lt Nat _ (L + 1 + 1 + 1 + 1 + 1 + 1 + 1 + 1 + 1) Dd ∧ @LT.lt Nat _ (L + 1 + 1 + 1 + 1 + 1 + 1 + 1 + 1) Dd ∧ @LT.lt Nat _ (L + 1 + 1 + 1 + 1 + 1 + 1 + 1) Dd ∧ @LT.lt Nat _ (L + 1 + 1 + 1 + 1 + 1 + 1) Dd ∧ @LT.lt Nat _ (L + 1 + 1 + 1 + 1 + 1) Dd ∧ @LT.lt Nat _ (L + 1 + 1 + 1 + 1) Dd ∧ @LT.lt Nat _ (L + 1 + 1 + 1) Dd ∧ @LT.lt Nat _ (L + 1 + 1) Dd ∧ @LT.lt Nat _ (L + 1) Dd) (g4 : @Ne Nat Dh Dp) (g5 : @LT.lt Nat _ Dh Dd) (g6 : @LT.lt Nat _ Dp Dd)
    (hret : ∀ h' tk' m', Fr h₀ L h' m' → Q (.ret (.bool true)) { s with heap := h', toks := tk' }) :
    wpAny (model pw w) (ktrTop dp un gd (.ofString "law") lawScope L a ccd (cellsFrom (L + 1) lawScope.names []) outer) (execs (lawBody.drop 7) (envOfC (.ofString "law") lawScope L a ccd)) Q (fun _ _ => False) s := by
  obtain ⟨Tm, k0, pl⟩ := plan_of hCL
  have g1c := g1
  have g2c := g2
  have ga10 := g1c.1
  have ga9 := g1c.2.1
  have ga8 := g1c.2.2.1
  have ga7 := g1c.2.2.2.1
  have ga6 := g1c.2.2.2.2.1
  have ga5 := g1c.2.2.2.2.2.1
  have ga4 := g1c.2.2.2.2.2.2.1
  have ga3 := g1c.2.2.2.2.2.2.2.1
  have ga2 := g1c.2.2.2.2.2.2.2.2.1
  have ga1 := g1c.2.2.2.2.2.2.2.2.2
  clear g1c
  have gb10 := g2c.1
  have gb9 := g2c.2.1
  have gb8 := g2c.2.2.1
  have gb7 := g2c.2.2.2.1
  have gb6 := g2c.2.2.2.2.1
  have gb5 := g2c.2.2.2.2.2.1
  have gb4 := g2c.2.2.2.2.2.2.1
  have gb3 := g2c.2.2.2.2.2.2.2.1
  have gb2 := g2c.2.2.2.2.2.2.2.2.1
  have gb1 := g2c.2.2.2.2.2.2.2.2.2
  clear g2c
  obtain ⟨_, _, ht1, ht8, _⟩ := card_facts hCL
  have hds0 : ds = dueS (sizesAt CL 0) := sorted_perm (hds.trans (isort_perm CL).symm) hdo (isort_sorted CL)
  refine' law_in (A := fun sc => ktrTop dp un gd (.ofString "law") sc L a ccd (cellsFrom (L + 1) sc.names []) outer) (env := fun sc => envOfC (.ofString "law") sc L a ccd) ?hs ?hb ?_
  case hs => conv => lhs; whnf
  case hb => conv => lhs; whnf
  dsimp only
  (repeat' (first | (k_unfold; (try dsimp only)) | (k_end; wrow_close) | with_reducible ((with_reducible show wpAny _ _ (exec (PySem.Stmt.For _ _ _ _ _) _) _ _ _); (rename Fr _ _ _ _ => lFq9); (with_unfolding_all refine' For_invVF lFq9 ?k1 ?k2 ?_; (case k1 => exact rfl); (case k2 => exact rfl); k_whole)) | walk1 | (dsimp only; walk1) | (leave1; (try dsimp only)) | fail))
  unfold Halt
  rename_i Dl ha lA hb' oL dL tka Ds hc' lB hd' tkb htkb Dm he lC hf oM F1' N1' dM hg tkd t₁ u₁ v₁ R9 F9 N9 kp9
  clear F1' N1' kp9
  have N0 : News h₀ L hg (lNW L Dl Ds Dh vh c1 oL c8 c9 c10 (⟨Dd, Dp, 0, 0, nd, np, [], [], vd, vp, xs, c2, c3, c4, oM, c7, [], []⟩ : LSt)) := by
    have h : News h₀ L hg ((Dl, W.listOf #[] 0) :: (Ds, W.listOf #[] 0) :: (Dd, W.listOf vd.toArray nd) :: (Dp, W.listOf vp.toArray np) :: (Dh, W.listOf vh.toArray 4) :: (L + 1 + 1 + 1 + 1 + 1 + 1 + 1 + 1 + 1 + 1, c1) :: (L + 1 + 1 + 1 + 1 + 1 + 1 + 1 + 1 + 1, c2) :: (L + 1 + 1 + 1 + 1 + 1 + 1 + 1 + 1, c3) :: (L + 1 + 1 + 1 + 1 + 1 + 1 + 1, c4) :: (L + 1 + 1 + 1 + 1 + 1 + 1, oM) :: (L + 1 + 1 + 1 + 1 + 1, oL) :: (L + 1 + 1 + 1 + 1, c7) :: (L + 1 + 1 + 1, c8) :: (L + 1 + 1, c9) :: (L + 1, c10) :: []) := news_sub N9 (List.forall_mem_cons.mpr ⟨by k_mem, List.forall_mem_cons.mpr ⟨by k_mem, List.forall_mem_cons.mpr ⟨by k_mem, List.forall_mem_cons.mpr ⟨by k_mem, List.forall_mem_cons.mpr ⟨by k_mem, List.forall_mem_cons.mpr ⟨by k_mem, List.forall_mem_cons.mpr ⟨by k_mem, List.forall_mem_cons.mpr ⟨by k_mem, List.forall_mem_cons.mpr ⟨by k_mem, List.forall_mem_cons.mpr ⟨by k_mem, List.forall_mem_cons.mpr ⟨by k_mem, List.forall_mem_cons.mpr ⟨by k_mem, List.forall_mem_cons.mpr ⟨by k_mem, List.forall_mem_cons.mpr ⟨by k_mem, List.forall_mem_cons.mpr ⟨by k_mem, fun _ h => nomatch h⟩⟩⟩⟩⟩⟩⟩⟩⟩⟩⟩⟩⟩⟩⟩)
    exact h
  have hm0 : ∀ p ∈ lOv Ds (⟨Dd, Dp, 0, 0, nd, np, [], [], vd, vp, xs, c2, c3, c4, oM, c7, [], []⟩ : LSt), (fun y => if y = PySem.Str.ofString "states" then some (Value.ref Ds) else ovr [(PySem.Str.ofString "due", Value.ref Dd)] m0 y) p.1 = some p.2 := by
    intro p hp
    simp only [lOv, List.mem_cons, List.not_mem_nil, or_false] at hp
    rcases hp with rfl | rfl
    · dsimp only
      rw [if_neg (by decide), ovr_cons, if_pos rfl]
    · exact if_pos rfl
  have i0 : LInv w.params L Dl Ds CL Tm 0 (⟨Dd, Dp, 0, 0, nd, np, [], [], vd, vp, xs, c2, c3, c4, oM, c7, [], []⟩ : LSt) := ⟨Nat.zero_le _, rfl, rfl, fun k o h => (by cases h), fun k o h => (by cases h), hvp, hxs, (by rw [← hds0]; exact hvd), dp', ⟨_, e2⟩, ⟨_, e3⟩, ⟨_, e4⟩, ⟨_, dM⟩, (by intro q hq; cases hq), ⟨g3.1, Nat.ne_of_lt lA.1, Nat.ne_of_lt lB.2.1⟩, ⟨g2, Nat.ne_of_lt lA.2.1, Nat.ne_of_lt lB.2.2.1⟩, (by intro q hq; cases hq)⟩
  refine' iter_range (σ := LSt) F9 (by rfl) R9 (small_one (by omega) (by omega) (by omega) (by omega)) (rangeSize_nat _ _) (lOv Ds) (lNW L Dl Ds Dh vh c1 oL c8 c9 c10) (fun i a => LInv w.params L Dl Ds CL Tm i a) (LDn w.params L Ds CL Tm k0) (⟨Dd, Dp, 0, 0, nd, np, [], [], vd, vp, xs, c2, c3, c4, oM, c7, [], []⟩ : LSt) hm0 N0 i0 ?turn ?hDn ?done
  case hDn =>
    intro st inv
    have h1 := inv.hi
    have h2 := pl.T24
    exact absurd (Nat.le_trans (show 24 ≤ ((24 : Int) - 0).toNat from Nat.le_refl _) h1) (by omega)
  case turn =>
    intro i t st h tk I oI hi inv F2 hne N2
    have hi24 : i < 24 := hi
    exact turn_law dp un gd a ccd outer A₀ base h₀ L _ Dl Ds Dh vh hs c1 oL c8 c9 c10 CL Tm k0 pl tt _ i t st I oI _ _ B X T hd hu dL dt dh hvh hhs ht1 ht8 g1 lA.2.2.2.1 lB.1 lA.2.2.1 hi24 inv F2 hne N2
  case done =>
    intro st u h tk hdn F3 N3
    clear N9 F9 R9 N0 i0 hm0
    (repeat' (first | (k_unfold; (try dsimp only)) | (k_end; wrow_close) | with_reducible ((with_reducible show wpAny _ _ (exec (PySem.Stmt.For _ _ _ _ _) _) _ _ _); (rename Fr _ _ _ _ => lFq9); (with_unfolding_all refine' For_invVF lFq9 ?k1 ?k2 ?_; (case k1 => exact rfl); (case k2 => exact rfl); k_whole)) | walk1 | (dsimp only; walk1) | (leave1; (try dsimp only)) | fail))
    unfold Halt
    exact back_law dp un gd a ccd outer A₀ base h₀ L _ Dl Ds Dh vh c1 oL c8 c9 c10 none CL Tm k0 pl tt _ u st Q B X T hd hu e1 dt ht1 ht8 hdn F3 N3 (fun h' tk' m' F' => hret h' tk' m' F')
end
section
set_option linter.unusedVariables false
set_option maxRecDepth 100000
set_option maxHeartbeats 8000000
local macro_rules | `(tactic| walk_at "subscriptTail") => `(tactic| walk_at "mine.4")
local macro_rules | `(tactic| walk_at "subscriptTail Name Name ref int") => `(tactic| walk_at "mine.4")
local macro_rules | `(tactic| walk_at "pyIter ref") => `(tactic| walk_at "mine.1")
local macro_rules | `(tactic| walk_at "TurnT") => `(tactic| walk_at "mine.1")
local macro_rules | `(tactic| walk_at "CompSrc") => `(tactic| walk_at "mine.1")
local macro_rules | `(tactic| walk_at "CompEnd") => `(tactic| walk_at "mine.1")
local macro_rules | `(tactic| walk_at "FinE") => `(tactic| walk_at "mine.1")
local macro_rules | `(tactic| walk_at "CompSrcT") => `(tactic| walk_at "mine.1")
local macro_rules | `(tactic| walk_at "CompSrcTu") => `(tactic| walk_at "mine.1")
theorem halt252 {M : Model} {A : Around} {args : List Value} {Q E : Value → Shared → Prop} {s : Shared} (h : Halt (wpAny M A (call (.ref 252) args) Q E s)) : wpAny M A (call (.ref 252) args) Q E s := h
local macro_rules | `(tactic| walk_at "call ref") => `(tactic| (k_here; refine halt252 ?_))
local macro_rules | `(tactic| k_all) => `(tactic| first | exact allNe_of (by assumption) | exact gt_ne (by assumption) (by omega))
theorem haltLeads {M : Model} {A : Around} {q1 q2 : Pos} {e : PySem.Expr} {r : List Stmt} {env : Env} {Q : Flow → Shared → Prop} {E : Value → Shared → Prop} {s : Shared} (h : Halt (wpAny M A (execs (Stmt.Assign [PySem.Expr.Name (PySem.Str.ofString "leads") q1] e q2 :: r) env) Q E s)) : wpAny M A (execs (Stmt.Assign [PySem.Expr.Name (PySem.Str.ofString "leads") q1] e q2 :: r) env) Q E s := h
local macro_rules | `(tactic| walk_at "execs cons") => `(tactic| (with_reducible refine haltLeads ?_))
theorem law_body {w : World} {p : Program} {loose : List PySem.Str} {mean : ExcName → Option Value} {mg mb : PySem.Str → Option Value} (dp un : Nat) (gd : Option (List Code)) (a : Addr) (ccd : Value) (outer : List Env) (A₀ : Around) (base h₀ : Heap) (L : Addr) (s : Shared) (l : Addr) (vs : List Value) (ns : List Int) (c1 c2 c3 c4 c5 c6 c7 c8 c9 c10 : Obj)
    (Q : Flow → Shared → Prop) (B : Below A₀ base outer h₀) (F : Fr h₀ L s.heap (fun y => if y = .ofString "script" then some (.ref l) else none)) (X : (K w.params).In h₀) (N : News h₀ L s.heap [(L + 1 + 1 + 1 + 1 + 1 + 1 + 1 + 1 + 1 + 1, c1), (L + 1 + 1 + 1 + 1 + 1 + 1 + 1 + 1 + 1, c2), (L + 1 + 1 + 1 + 1 + 1 + 1 + 1 + 1, c3), (L + 1 + 1 + 1 + 1 + 1 + 1 + 1, c4), (L + 1 + 1 + 1 + 1 + 1 + 1, c5), (L + 1 + 1 + 1 + 1 + 1, c6), (L + 1 + 1 + 1 + 1, c7), (L + 1 + 1 + 1, c8), (L + 1 + 1, c9), (L + 1, c10)]) (d1 : c1.data = .cell none) (d2 : c2.data = .cell none) (d3 : c3.data = .cell none) (d4 : c4.data = .cell none) (d5 : c5.data = .cell none) (d6 : c6.data = .cell none) (d7 : c7.data = .cell none) (d8 : c8.data = .cell none) (d9 : c9.data = .cell none) (d10 : c10.data = .cell none) (T : Top p loose mean mg mb h₀) (hd : dp + 100 < recursionLimit) (hu : un + 400 < cLine)
    (hl : h₀.IsList l vs.toArray) (hi : IntsAre vs ns) (h63 : ns.length ≤ 63)
    (hret : ∀ h' tk' m', Fr h₀ L h' m' → Q (.ret (.bool true)) { s with heap := h', toks := tk' }) :
    wpAny (model pw w) (ktrTop dp un gd (.ofString "law") lawScope L a ccd (cellsFrom (L + 1) lawScope.names []) outer) (execs lawBody (envOfC (.ofString "law") lawScope L a ccd)) Q (fun _ _ => False) s := by
  unfold lawBody
  refine' law_in (A := fun sc => ktrTop dp un gd (.ofString "law") sc L a ccd (cellsFrom (L + 1) sc.names []) outer) (env := fun sc => envOfC (.ofString "law") sc L a ccd) ?hs ?hb ?_
  case hs => conv => lhs; whnf
  case hb => conv => lhs; whnf
  dsimp only
  (repeat' (first | (k_unfold; (try dsimp only)) | (k_end; wrow_close) | with_reducible ((with_reducible show wpAny _ _ (call (Value.ref _) _) _ _ _); k_dflt (refine' con_heaps _ _ _ _ _ _ _ _ _ _ _ _ _ _ _ _ _ _ _ _ _ ?kB ?kF ?kX ?kN ?kT ?kk ?kd ?ku ?e1 ?e2 ?e3 ?_; (case kB => k_asm); (case kF => k_asm); (case kX => k_asm); (case kN => k_asm); (case kT => k_asm); (case kk => first | assumption | rfl); (case kd => ktr_room); (case ku => ke_room); (case e1 => assumption); (case e2 => assumption); (case e3 => assumption)); intro Dq9 itsq9 hsq9 hq9 tkq9 hiq9 hzq9 hnq9 Fq9 Nq9; (try k_sweep); (simp only [List.forall_mem_cons, List.not_mem_nil, false_implies, implies_true, and_true] at hnq9)) | with_reducible ((with_reducible show wpAny _ _ (compareOp CmpOp.NotEq (Value.ref _) (Value.ref _)) _ _ _); k_dflt (refine' ne_strs_same ?N ?ha ?hb ?hi ?hj ?ho ?hu ?_; (case N => k_asm); (case ha => k_mem); (case hb => k_mem); (case hi => assumption); (case hj => assumption); (case ho => assumption); (case hu => ke_room))) | with_reducible ((with_reducible show wpAny _ _ (eval (Expr.ListComp _ [PySem.Comprehension.mk _ (Expr.Tuple _ _ _) _ _] _ _) _) _ _ _); k_dflt (refine ListComp_TT (F₀ := by k_asm) (by with_unfolding_all rfl) (by decide) (by rfl) (by decide) (by rfl) ?_)) | with_reducible ((with_reducible show wpAny _ _ (eval (Expr.ListComp _ [PySem.Comprehension.mk _ _ [] _] _ _) _) _ _ _); k_dflt (refine LCg.ListComp_U (F₀ := by k_asm) (by with_unfolding_all rfl) (by decide) (by rfl) (by decide) (by rfl) ?_)) | with_reducible ((with_reducible show wpAny _ _ (eval (PySem.Expr.ListComp _ _ _ _ ) _) _ _ _); k_dflt (refine LCt.ListComp_T (F₀ := by k_asm) (by with_unfolding_all rfl) (by decide) (by rfl) (by decide) (by rfl) ?_)) | with_reducible ((with_reducible show wpAny _ _ (exec (PySem.Stmt.For _ _ _ _ _) _) _ _ _); (rename Fr _ _ _ _ => lFq9); (with_unfolding_all refine' For_invVF lFq9 ?k1 ?k2 ?_; (case k1 => exact rfl); (case k2 => exact rfl); k_whole)) | walk1 | (dsimp only; walk1) | (leave1; (try dsimp only)) | fail))
  unfold Halt
  rename (_ ≠ _) ∧ _ => hn9
  have hn9c := hn9
  repeat (obtain ⟨_, hn9c⟩ := hn9c)
  rename Fr _ _ _ _ => F9
  rename News _ _ _ _ => N9
  rename List Int => hs
  refine ⟨_, _, _, rfl, rfl, F9, N9, .head _, Nat.le_of_ble_eq_true rfl, fun s₂ hs₂ => ?_⟩
  obtain ⟨g, rfl⟩ := hs₂
  have x0 := Int.fmod_nonneg_of_pos (hs.getD (Int.toNat 0) 0) (b := 4) (by decide)
  have x1 := Int.fmod_lt_of_pos (hs.getD (Int.toNat 0) 0) (b := 4) (by decide)
  have y0 := Int.fmod_nonneg_of_pos (hs.getD (Int.toNat 1) 0) (b := 3) (by decide)
  have y1 := Int.fmod_lt_of_pos (hs.getD (Int.toNat 1) 0) (b := 3) (by decide)
  have z0 := Int.fmod_nonneg_of_pos (hs.getD (Int.toNat 2) 0) (b := 3) (by decide)
  have z1 := Int.fmod_lt_of_pos (hs.getD (Int.toNat 2) 0) (b := 3) (by decide)
  generalize (hs.getD (Int.toNat 0) 0).fmod 4 = x at *
  generalize (hs.getD (Int.toNat 1) 0).fmod 3 = y at *
  generalize (hs.getD (Int.toNat 2) 0).fmod 3 = z at *
  refine restT_inv 3 (fun i ys nw => nw = _ ∧ IntsAre ys (cardsL (1 + x) y z i)) ?turn ?fin 3 0 [] _ rfl ⟨rfl, .nil⟩
  case turn =>
    rintro i ys nw v I oI C oC D m₂ h tk E' hi4 ⟨rfl, hI⟩ hv h3 h4 h5 h6 h7 h8
    have h7' := h7
    simp only [LCg.Off3] at h7
    clear F9 N9
    have h3i : i = 0 ∨ i = 1 ∨ i = 2 := by omega
    obtain ⟨u, t, rfl, htk⟩ : ∃ u t, v = .int u t ∧ [1 + x, y, z].take (i + 1) = [1 + x, y, z].take i ++ [u] := by
      rcases h3i with rfl | rfl | rfl
      · cases hv; exact ⟨_, _, rfl, rfl⟩
      · cases hv; exact ⟨_, _, rfl, rfl⟩
      · cases hv; exact ⟨_, _, rfl, rfl⟩
    clear hv
    (repeat' (first | (k_unfold; (try dsimp only)) | (k_end; wrow_close) | with_reducible ((with_reducible show wpAny _ _ (call (Value.ref _) _) _ _ _); k_dflt (refine' con_heaps _ _ _ _ _ _ _ _ _ _ _ _ _ _ _ _ _ _ _ _ _ ?kB ?kF ?kX ?kN ?kT ?kk ?kd ?ku ?e1 ?e2 ?e3 ?_; (case kB => k_asm); (case kF => k_asm); (case kX => k_asm); (case kN => k_asm); (case kT => k_asm); (case kk => first | assumption | rfl); (case kd => ktr_room); (case ku => ke_room); (case e1 => assumption); (case e2 => assumption); (case e3 => assumption)); intro Dq9 itsq9 hsq9 hq9 tkq9 hiq9 hzq9 hnq9 Fq9 Nq9; (try k_sweep); (simp only [List.forall_mem_cons, List.not_mem_nil, false_implies, implies_true, and_true] at hnq9)) | with_reducible ((with_reducible show wpAny _ _ (compareOp CmpOp.NotEq (Value.ref _) (Value.ref _)) _ _ _); k_dflt (refine' ne_strs_same ?N ?ha ?hb ?hi ?hj ?ho ?hu ?_; (case N => k_asm); (case ha => k_mem); (case hb => k_mem); (case hi => assumption); (case hj => assumption); (case ho => assumption); (case hu => ke_room))) | with_reducible ((with_reducible show wpAny _ _ (eval (Expr.ListComp _ [PySem.Comprehension.mk _ (Expr.Tuple _ _ _) _ _] _ _) _) _ _ _); k_dflt (refine ListComp_TT (F₀ := by k_asm) (by with_unfolding_all rfl) (by decide) (by rfl) (by decide) (by rfl) ?_)) | with_reducible ((with_reducible show wpAny _ _ (eval (Expr.ListComp _ [PySem.Comprehension.mk _ _ [] _] _ _) _) _ _ _); k_dflt (refine LCg.ListComp_U (F₀ := by k_asm) (by with_unfolding_all rfl) (by decide) (by rfl) (by decide) (by rfl) ?_)) | with_reducible ((with_reducible show wpAny _ _ (eval (PySem.Expr.ListComp _ _ _ _ ) _) _ _ _); k_dflt (refine LCt.ListComp_T (F₀ := by k_asm) (by with_unfolding_all rfl) (by decide) (by rfl) (by decide) (by rfl) ?_)) | with_reducible ((with_reducible show wpAny _ _ (exec (PySem.Stmt.For _ _ _ _ _) _) _ _ _); (rename Fr _ _ _ _ => lFq9); (with_unfolding_all refine' For_invVF lFq9 ?k1 ?k2 ?_; (case k1 => exact rfl); (case k2 => exact rfl); k_whole)) | walk1 | (dsimp only; walk1) | (leave1; (try dsimp only)) | fail))
    · rename Fr _ _ _ _ => F5
      rename News _ _ _ _ => N5
      exact LCg.CompEnd.intro F5 N5 _ (fun p hp => hp) h7' (.head _) ⟨rfl, by rw [cardsL_yes htk (by assumption)]; exact ints_snoc hI⟩
    · rename Fr _ _ _ _ => F5
      rename News _ _ _ _ => N5
      exact LCg.CompEnd.intro F5 N5 _ (fun p hp => hp) h7' (.head _) ⟨rfl, by rw [cardsL_no htk (by assumption)]; exact hI⟩
  case fin =>
    rintro ys nw ⟨rfl, hI⟩
    intro D h tk F3 N3 O3
    clear F9 N9
    have hCL := cards_in (x := 1 + x) (y := y) (z := z) (by omega) (by omega) y0 (by omega) z0 (by omega)
    generalize cardsL (1 + x) y z 3 = CL at hI hCL
    have hO := off1_mem O3
    simp only [List.forall_mem_cons, List.not_mem_nil, false_implies, implies_true, and_true] at hO
    have hOc := hO
    repeat (obtain ⟨_, hOc⟩ := hOc)
    have N4 : News _ _ h ((D, W.listOf ys.toArray ys.length) :: _) := N3
    clear N3
    obtain ⟨cf1, cf2, cf3, cf4, cf5⟩ := card_facts hCL
    have hyl := hI.length
    (repeat' (first | (k_unfold; (try dsimp only)) | (k_end; wrow_close) | with_reducible ((with_reducible show wpAny _ _ (call (Value.ref _) _) _ _ _); k_dflt (refine' con_heaps _ _ _ _ _ _ _ _ _ _ _ _ _ _ _ _ _ _ _ _ _ ?kB ?kF ?kX ?kN ?kT ?kk ?kd ?ku ?e1 ?e2 ?e3 ?_; (case kB => k_asm); (case kF => k_asm); (case kX => k_asm); (case kN => k_asm); (case kT => k_asm); (case kk => first | assumption | rfl); (case kd => ktr_room); (case ku => ke_room); (case e1 => assumption); (case e2 => assumption); (case e3 => assumption)); intro Dq9 itsq9 hsq9 hq9 tkq9 hiq9 hzq9 hnq9 Fq9 Nq9; (try k_sweep); (simp only [List.forall_mem_cons, List.not_mem_nil, false_implies, implies_true, and_true] at hnq9)) | with_reducible ((with_reducible show wpAny _ _ (compareOp CmpOp.NotEq (Value.ref _) (Value.ref _)) _ _ _); k_dflt (refine' ne_strs_same ?N ?ha ?hb ?hi ?hj ?ho ?hu ?_; (case N => k_asm); (case ha => k_mem); (case hb => k_mem); (case hi => assumption); (case hj => assumption); (case ho => assumption); (case hu => ke_room))) | with_reducible ((with_reducible show wpAny _ _ (eval (Expr.ListComp _ [PySem.Comprehension.mk _ (Expr.Tuple _ _ _) _ _] _ _) _) _ _ _); k_dflt (refine ListComp_TT (F₀ := by k_asm) (by with_unfolding_all rfl) (by decide) (by rfl) (by decide) (by rfl) ?_)) | with_reducible ((with_reducible show wpAny _ _ (eval (Expr.ListComp _ [PySem.Comprehension.mk _ _ [] _] _ _) _) _ _ _); k_dflt (refine LCg.ListComp_U (F₀ := by k_asm) (by with_unfolding_all rfl) (by decide) (by rfl) (by decide) (by rfl) ?_)) | with_reducible ((with_reducible show wpAny _ _ (eval (PySem.Expr.ListComp _ _ _ _ ) _) _ _ _); k_dflt (refine LCt.ListComp_T (F₀ := by k_asm) (by with_unfolding_all rfl) (by decide) (by rfl) (by decide) (by rfl) ?_)) | with_reducible ((with_reducible show wpAny _ _ (exec (PySem.Stmt.For _ _ _ _ _) _) _ _ _); (rename Fr _ _ _ _ => lFq9); (with_unfolding_all refine' For_invVF lFq9 ?k1 ?k2 ?_; (case k1 => exact rfl); (case k2 => exact rfl); k_whole)) | walk1 | (dsimp only; walk1) | (leave1; (try dsimp only)) | fail))
    unfold Halt
    rename Fr _ _ _ _ => F9
    rename News _ _ _ _ => N9
    rename IsRange _ _ _ _ _ _ _ _ => R9
    obtain ⟨base, hbase, N10⟩ := news_gen N9
    refine LCg.CompSrc.range (n := ((CL.length : Int) - 0).toNat) (by rfl) F9 N10 R9 (small_one (by omega) (by omega) (by omega) (by omega)) (rangeSize_nat _ _) (by rw [sizeLine_eq]; omega) (fun g => ?_)
    refine rest_inv ((CL.length : Int) - 0).toNat (fun i zs nw => ∃ ps : List Pr, nw = base ++ ps.map prObj ∧ zs = ps.map (fun p => .ref p.1) ∧ PilesAre (ps.map (·.2.1)) (CL.take i) ∧ ∀ q ∈ ps.map prObj, @LT.lt Nat _ (L + 1 + 1 + 1 + 1 + 1 + 1 + 1 + 1 + 1 + 1) q.1) ?turn2 ?fin2 ((CL.length : Int) - 0).toNat 0 [] _ (by omega) ⟨[], (List.append_nil _).symm, rfl, .nil, fun _ h => nomatch h⟩
    case turn2 =>
      rintro i zs nw v I oI C oC D2 m₂ h tk E' hi4 ⟨ps, rfl, hzs, hps, hpg⟩ ⟨t, rfl⟩ h3 h4 h5 h6 h7 h8
      clear F9 N9 R9
      have h7' := h7.mem
      clear N10 h7
      rw [hbase] at h6
      simp only [List.cons_append, List.nil_append] at h6
      have g0 : (0 : Int) ≤ 0 + (i : Int) := by omega
      have g1 : 0 + (i : Int) < CL.length := by omega
      have g2 : 0 + (i : Int) < 2 ^ 62 := by omega
      have hmem : CL.getD (0 + (i : Int)).toNat 0 ∈ CL := by
        rw [List.getD_eq_getElem?_getD, List.getElem?_eq_getElem (by omega)]; exact List.getElem_mem _
      obtain ⟨b1, b2⟩ := cf5 _ hmem
      have b3 : CL.getD (0 + (i : Int)).toNat 0 ≤ 8 := by omega
      (repeat' (first | (k_unfold; (try dsimp only)) | (k_end; wrow_close) | with_reducible ((with_reducible show wpAny _ _ (call (Value.ref _) _) _ _ _); k_dflt (refine' con_heaps _ _ _ _ _ _ _ _ _ _ _ _ _ _ _ _ _ _ _ _ _ ?kB ?kF ?kX ?kN ?kT ?kk ?kd ?ku ?e1 ?e2 ?e3 ?_; (case kB => k_asm); (case kF => k_asm); (case kX => k_asm); (case kN => k_asm); (case kT => k_asm); (case kk => first | assumption | rfl); (case kd => ktr_room); (case ku => ke_room); (case e1 => assumption); (case e2 => assumption); (case e3 => assumption)); intro Dq9 itsq9 hsq9 hq9 tkq9 hiq9 hzq9 hnq9 Fq9 Nq9; (try k_sweep); (simp only [List.forall_mem_cons, List.not_mem_nil, false_implies, implies_true, and_true] at hnq9)) | with_reducible ((with_reducible show wpAny _ _ (compareOp CmpOp.NotEq (Value.ref _) (Value.ref _)) _ _ _); k_dflt (refine' ne_strs_same ?N ?ha ?hb ?hi ?hj ?ho ?hu ?_; (case N => k_asm); (case ha => k_mem); (case hb => k_mem); (case hi => assumption); (case hj => assumption); (case ho => assumption); (case hu => ke_room))) | with_reducible ((with_reducible show wpAny _ _ (eval (Expr.ListComp _ [PySem.Comprehension.mk _ (Expr.Tuple _ _ _) _ _] _ _) _) _ _ _); k_dflt (refine ListComp_TT (F₀ := by k_asm) (by with_unfolding_all rfl) (by decide) (by rfl) (by decide) (by rfl) ?_)) | with_reducible ((with_reducible show wpAny _ _ (eval (Expr.ListComp _ [PySem.Comprehension.mk _ _ [] _] _ _) _) _ _ _); k_dflt (refine LCg.ListComp_U (F₀ := by k_asm) (by with_unfolding_all rfl) (by decide) (by rfl) (by decide) (by rfl) ?_)) | with_reducible ((with_reducible show wpAny _ _ (eval (PySem.Expr.ListComp _ _ _ _ ) _) _ _ _); k_dflt (refine LCt.ListComp_T (F₀ := by k_asm) (by with_unfolding_all rfl) (by decide) (by rfl) (by decide) (by rfl) ?_)) | with_reducible ((with_reducible show wpAny _ _ (exec (PySem.Stmt.For _ _ _ _ _) _) _ _ _); (rename Fr _ _ _ _ => lFq9); (with_unfolding_all refine' For_invVF lFq9 ?k1 ?k2 ?_; (case k1 => exact rfl); (case k2 => exact rfl); k_whole)) | walk1 | (dsimp only; walk1) | (leave1; (try dsimp only)) | fail))
      unfold Halt
      refine' con_pile _ _ _ _ _ _ _ _ _ _ _ _ _ _ _ _ _ _ _ _ _ _ ?kB ?kF ?kX ?kN ?kT ?kk ?kd ?ku ?e1 ?e2 ?e3 ?e4 ?_
      case kB => k_asm
      case kF => k_asm
      case kX => k_asm
      case kN => k_asm
      case kT => k_asm
      case kk => rfl
      case kd => ktr_room
      case ku => ke_room
      case e1 => assumption
      case e2 => assumption
      case e3 => ktr_room
      case e4 => first | omega | (dsimp only [ktrTop]; omega)
      intro T9 y9 nm9 u1 u2 h9 tk9 hnm9 hy9 hlt9 F' N'
      (repeat' (first | (k_unfold; (try dsimp only)) | (k_end; wrow_close) | with_reducible ((with_reducible show wpAny _ _ (call (Value.ref _) _) _ _ _); k_dflt (refine' con_heaps _ _ _ _ _ _ _ _ _ _ _ _ _ _ _ _ _ _ _ _ _ ?kB ?kF ?kX ?kN ?kT ?kk ?kd ?ku ?e1 ?e2 ?e3 ?_; (case kB => k_asm); (case kF => k_asm); (case kX => k_asm); (case kN => k_asm); (case kT => k_asm); (case kk => first | assumption | rfl); (case kd => ktr_room); (case ku => ke_room); (case e1 => assumption); (case e2 => assumption); (case e3 => assumption)); intro Dq9 itsq9 hsq9 hq9 tkq9 hiq9 hzq9 hnq9 Fq9 Nq9; (try k_sweep); (simp only [List.forall_mem_cons, List.not_mem_nil, false_implies, implies_true, and_true] at hnq9)) | with_reducible ((with_reducible show wpAny _ _ (compareOp CmpOp.NotEq (Value.ref _) (Value.ref _)) _ _ _); k_dflt (refine' ne_strs_same ?N ?ha ?hb ?hi ?hj ?ho ?hu ?_; (case N => k_asm); (case ha => k_mem); (case hb => k_mem); (case hi => assumption); (case hj => assumption); (case ho => assumption); (case hu => ke_room))) | with_reducible ((with_reducible show wpAny _ _ (eval (Expr.ListComp _ [PySem.Comprehension.mk _ (Expr.Tuple _ _ _) _ _] _ _) _) _ _ _); k_dflt (refine ListComp_TT (F₀ := by k_asm) (by with_unfolding_all rfl) (by decide) (by rfl) (by decide) (by rfl) ?_)) | with_reducible ((with_reducible show wpAny _ _ (eval (Expr.ListComp _ [PySem.Comprehension.mk _ _ [] _] _ _) _) _ _ _); k_dflt (refine LCg.ListComp_U (F₀ := by k_asm) (by with_unfolding_all rfl) (by decide) (by rfl) (by decide) (by rfl) ?_)) | with_reducible ((with_reducible show wpAny _ _ (eval (PySem.Expr.ListComp _ _ _ _ ) _) _ _ _); k_dflt (refine LCt.ListComp_T (F₀ := by k_asm) (by with_unfolding_all rfl) (by decide) (by rfl) (by decide) (by rfl) ?_)) | with_reducible ((with_reducible show wpAny _ _ (exec (PySem.Stmt.For _ _ _ _ _) _) _ _ _); (rename Fr _ _ _ _ => lFq9); (with_unfolding_all refine' For_invVF lFq9 ?k1 ?k2 ?_; (case k1 => exact rfl); (case k2 => exact rfl); k_whole)) | walk1 | (dsimp only; walk1) | (leave1; (try dsimp only)) | fail))
      unfold Halt
      rename Fr _ _ _ _ => F5
      rename News _ _ _ _ => N5
      have N6 := news_cast (l' := prObj (T9, y9, u1, u2) :: (I, oI) :: (C, oC) :: (D2, LCg.lst zs) :: (base ++ ps.map prObj)) N5 (by rw [hbase]; rfl)
      refine LCg.CompEnd.intro F5 N6 _ (fun q hq => sub_last (l := (I, oI) :: (C, oC) :: (D2, LCg.lst zs) :: base) (m := ps.map prObj) (a := prObj (T9, y9, u1, u2)) q hq) (off_last h7' (hlt9 _ (.head _)) (hlt9 _ (.tail _ (.head _))) (hlt9 _ (.tail _ (.tail _ (.head _))))) trivial ⟨ps ++ [(T9, y9, u1, u2)], by rw [List.map_append]; rfl, by rw [hzs, List.map_append]; rfl, ?_, fun q hq => ?_⟩
      case refine_2 =>
        rw [List.map_append] at hq
        rcases List.mem_append.mp hq with hq | hq
        · exact hpg q hq
        · rw [List.mem_singleton.mp hq]
          have hc := hlt9 (L + 1 + 1 + 1 + 1 + 1 + 1 + 1 + 1 + 1 + 1, c1) (by k_mem)
          exact hc
      rw [List.map_append, take_succ_getD (by omega)]
      rw [show (0 + (i : Int)).toNat = i by omega] at hy9
      exact hps.snoc hnm9 hy9
    case fin2 =>
      rintro zs nw ⟨ps, rfl, hzs, hps, hpg⟩
      intro D2 h tk F7 N7 O7
      clear F9 N9 R9
      clear N10
      rw [hbase] at N7
      simp only [List.cons_append, List.nil_append] at N7
      dsimp only
      have hO7 := off1_mem O7
      rw [hbase] at hO7
      simp only [List.cons_append, List.nil_append, List.forall_mem_cons] at hO7
      have hO7c := hO7
      repeat (obtain ⟨_, hO7c⟩ := hO7c)
      have N8 : News _ _ h ((D2, W.listOf zs.toArray zs.length) :: _) := N7
      clear N7
      rw [List.take_of_length_le (by omega)] at hps
      have hpl := hps.length
      have hpsl : ps.length = CL.length := by rw [← hpl, List.length_map]
      have hzl : zs.length = CL.length := by rw [hzs, List.length_map]; exact hpsl
      (repeat' (first | (k_unfold; (try dsimp only)) | (k_end; wrow_close) | with_reducible ((with_reducible show wpAny _ _ (call (Value.ref _) _) _ _ _); k_dflt (refine' con_heaps _ _ _ _ _ _ _ _ _ _ _ _ _ _ _ _ _ _ _ _ _ ?kB ?kF ?kX ?kN ?kT ?kk ?kd ?ku ?e1 ?e2 ?e3 ?_; (case kB => k_asm); (case kF => k_asm); (case kX => k_asm); (case kN => k_asm); (case kT => k_asm); (case kk => first | assumption | rfl); (case kd => ktr_room); (case ku => ke_room); (case e1 => assumption); (case e2 => assumption); (case e3 => assumption)); intro Dq9 itsq9 hsq9 hq9 tkq9 hiq9 hzq9 hnq9 Fq9 Nq9; (try k_sweep); (simp only [List.forall_mem_cons, List.not_mem_nil, false_implies, implies_true, and_true] at hnq9)) | with_reducible ((with_reducible show wpAny _ _ (compareOp CmpOp.NotEq (Value.ref _) (Value.ref _)) _ _ _); k_dflt (refine' ne_strs_same ?N ?ha ?hb ?hi ?hj ?ho ?hu ?_; (case N => k_asm); (case ha => k_mem); (case hb => k_mem); (case hi => assumption); (case hj => assumption); (case ho => assumption); (case hu => ke_room))) | with_reducible ((with_reducible show wpAny _ _ (eval (Expr.ListComp _ [PySem.Comprehension.mk _ (Expr.Tuple _ _ _) _ _] _ _) _) _ _ _); k_dflt (refine ListComp_TT (F₀ := by k_asm) (by with_unfolding_all rfl) (by decide) (by rfl) (by decide) (by rfl) ?_)) | with_reducible ((with_reducible show wpAny _ _ (eval (Expr.ListComp _ [PySem.Comprehension.mk _ _ [] _] _ _) _) _ _ _); k_dflt (refine LCg.ListComp_U (F₀ := by k_asm) (by with_unfolding_all rfl) (by decide) (by rfl) (by decide) (by rfl) ?_)) | with_reducible ((with_reducible show wpAny _ _ (eval (PySem.Expr.ListComp _ _ _ _ ) _) _ _ _); k_dflt (refine LCt.ListComp_T (F₀ := by k_asm) (by with_unfolding_all rfl) (by decide) (by rfl) (by decide) (by rfl) ?_)) | with_reducible ((with_reducible show wpAny _ _ (exec (PySem.Stmt.For _ _ _ _ _) _) _ _ _); (rename Fr _ _ _ _ => lFq9); (with_unfolding_all refine' For_invVF lFq9 ?k1 ?k2 ?_; (case k1 => exact rfl); (case k2 => exact rfl); k_whole)) | walk1 | (dsimp only; walk1) | (leave1; (try dsimp only)) | fail))
      unfold Halt
      rename Fr _ _ _ _ => F9
      rename News _ _ _ _ => N9
      obtain ⟨basea, hba, N10⟩ := news_gen N9
      have hDa : (D2, W.listOf zs.toArray zs.length) ∈ basea := by rw [hba]; k_mem
      have hTa : ∀ p ∈ ps, prObj p ∈ basea := fun p hp => by
        rw [hba]
        have this : prObj p ∈ ps.map prObj := List.mem_map.mpr ⟨p, hp, rfl⟩
        repeat (first | exact this | apply List.mem_cons_of_mem)
      refine LCg.CompSrc.ledger (its := zs.toArray) (by rfl) F9 N10 hDa (by rw [sizeLine_eq, List.size_toArray, hzl]; omega) (fun g => ?_)
      refine rest_inv zs.toArray.size (fun i xs nw => nw = basea ∧ StrsAre xs ((ps.map (·.2.1)).take i)) ?turna ?fina zs.toArray.size 0 [] _ (by omega) ⟨rfl, .nil⟩
      case turna =>
        rintro i xs nw v I oI C oC D3 m₂ h tk E' hi4 ⟨hnw, hS⟩ hv h3 h4 h5 h6 h7 h8
        rw [hnw] at h6 h7
        clear hnw
        obtain ⟨p9, hp9, rfl⟩ := pr_at hzs hv
        have hp8 := hTa p9 (List.mem_of_getElem? hp9)
        clear N10 N9 F9
        have h9 : News _ _ h ((p9.1, { cls := .type "tuple", data := .seq #[.str p9.2.1 p9.2.2.1, .str p9.2.1 p9.2.2.2] }) :: (I, oI) :: (C, oC) :: (D3, LCg.lst xs) :: basea) := fun q hq => h6 q (by
          rcases List.mem_cons.mp hq with rfl | hq
          · exact .tail _ (.tail _ (.tail _ hp8))
          · exact hq)
        clear h6
        (repeat' (first | (k_unfold; (try dsimp only)) | (k_end; wrow_close) | with_reducible ((with_reducible show wpAny _ _ (call (Value.ref _) _) _ _ _); k_dflt (refine' con_heaps _ _ _ _ _ _ _ _ _ _ _ _ _ _ _ _ _ _ _ _ _ ?kB ?kF ?kX ?kN ?kT ?kk ?kd ?ku ?e1 ?e2 ?e3 ?_; (case kB => k_asm); (case kF => k_asm); (case kX => k_asm); (case kN => k_asm); (case kT => k_asm); (case kk => first | assumption | rfl); (case kd => ktr_room); (case ku => ke_room); (case e1 => assumption); (case e2 => assumption); (case e3 => assumption)); intro Dq9 itsq9 hsq9 hq9 tkq9 hiq9 hzq9 hnq9 Fq9 Nq9; (try k_sweep); (simp only [List.forall_mem_cons, List.not_mem_nil, false_implies, implies_true, and_true] at hnq9)) | with_reducible ((with_reducible show wpAny _ _ (compareOp CmpOp.NotEq (Value.ref _) (Value.ref _)) _ _ _); k_dflt (refine' ne_strs_same ?N ?ha ?hb ?hi ?hj ?ho ?hu ?_; (case N => k_asm); (case ha => k_mem); (case hb => k_mem); (case hi => assumption); (case hj => assumption); (case ho => assumption); (case hu => ke_room))) | with_reducible ((with_reducible show wpAny _ _ (eval (Expr.ListComp _ [PySem.Comprehension.mk _ (Expr.Tuple _ _ _) _ _] _ _) _) _ _ _); k_dflt (refine ListComp_TT (F₀ := by k_asm) (by with_unfolding_all rfl) (by decide) (by rfl) (by decide) (by rfl) ?_)) | with_reducible ((with_reducible show wpAny _ _ (eval (Expr.ListComp _ [PySem.Comprehension.mk _ _ [] _] _ _) _) _ _ _); k_dflt (refine LCg.ListComp_U (F₀ := by k_asm) (by with_unfolding_all rfl) (by decide) (by rfl) (by decide) (by rfl) ?_)) | with_reducible ((with_reducible show wpAny _ _ (eval (PySem.Expr.ListComp _ _ _ _ ) _) _ _ _); k_dflt (refine LCt.ListComp_T (F₀ := by k_asm) (by with_unfolding_all rfl) (by decide) (by rfl) (by decide) (by rfl) ?_)) | with_reducible ((with_reducible show wpAny _ _ (exec (PySem.Stmt.For _ _ _ _ _) _) _ _ _); (rename Fr _ _ _ _ => lFq9); (with_unfolding_all refine' For_invVF lFq9 ?k1 ?k2 ?_; (case k1 => exact rfl); (case k2 => exact rfl); k_whole)) | walk1 | (dsimp only; walk1) | (leave1; (try dsimp only)) | fail))
        unfold Halt
        rename Fr _ _ _ _ => F5
        rename News _ _ _ _ => N5
        exact LCg.CompEnd.intro F5 N5 _ (fun q hq => .tail _ hq) h7 (.inr ⟨_, hDa, rfl, _, rfl⟩) ⟨rfl, strs_snoc_at hS hp9⟩
      case fina =>
        rintro xs nw ⟨hnw, hS⟩
        intro D3 h tk F3 N3 O3
        rw [List.take_of_length_le (by rw [List.size_toArray, hzl, List.length_map]; omega)] at hS
        clear N10 N9 F9
        rw [hnw, hba] at N3 O3
        clear hnw
        have hOa := off1_mem O3
        have N4 : News _ _ h ((D3, W.listOf xs.toArray xs.length) :: _) := N3
        clear N3
        have hS' : StrsAre xs (ps.map (·.2.1)) := hS
        clear hS O3
        simp only [List.forall_mem_cons] at hOa
        have hOac := hOa
        repeat (obtain ⟨_, hOac⟩ := hOac)
        (repeat' (first | (k_unfold; (try dsimp only)) | (k_end; wrow_close) | with_reducible ((with_reducible show wpAny _ _ (call (Value.ref _) _) _ _ _); k_dflt (refine' con_heaps _ _ _ _ _ _ _ _ _ _ _ _ _ _ _ _ _ _ _ _ _ ?kB ?kF ?kX ?kN ?kT ?kk ?kd ?ku ?e1 ?e2 ?e3 ?_; (case kB => k_asm); (case kF => k_asm); (case kX => k_asm); (case kN => k_asm); (case kT => k_asm); (case kk => first | assumption | rfl); (case kd => ktr_room); (case ku => ke_room); (case e1 => assumption); (case e2 => assumption); (case e3 => assumption)); intro Dq9 itsq9 hsq9 hq9 tkq9 hiq9 hzq9 hnq9 Fq9 Nq9; (try k_sweep); (simp only [List.forall_mem_cons, List.not_mem_nil, false_implies, implies_true, and_true] at hnq9)) | with_reducible ((with_reducible show wpAny _ _ (compareOp CmpOp.NotEq (Value.ref _) (Value.ref _)) _ _ _); k_dflt (refine' ne_strs_same ?N ?ha ?hb ?hi ?hj ?ho ?hu ?_; (case N => k_asm); (case ha => k_mem); (case hb => k_mem); (case hi => assumption); (case hj => assumption); (case ho => assumption); (case hu => ke_room))) | with_reducible ((with_reducible show wpAny _ _ (eval (Expr.ListComp _ [PySem.Comprehension.mk _ (Expr.Tuple _ _ _) _ _] _ _) _) _ _ _); k_dflt (refine ListComp_TT (F₀ := by k_asm) (by with_unfolding_all rfl) (by decide) (by rfl) (by decide) (by rfl) ?_)) | with_reducible ((with_reducible show wpAny _ _ (eval (Expr.ListComp _ [PySem.Comprehension.mk _ _ [] _] _ _) _) _ _ _); k_dflt (refine LCg.ListComp_U (F₀ := by k_asm) (by with_unfolding_all rfl) (by decide) (by rfl) (by decide) (by rfl) ?_)) | with_reducible ((with_reducible show wpAny _ _ (eval (PySem.Expr.ListComp _ _ _ _ ) _) _ _ _); k_dflt (refine LCt.ListComp_T (F₀ := by k_asm) (by with_unfolding_all rfl) (by decide) (by rfl) (by decide) (by rfl) ?_)) | with_reducible ((with_reducible show wpAny _ _ (exec (PySem.Stmt.For _ _ _ _ _) _) _ _ _); (rename Fr _ _ _ _ => lFq9); (with_unfolding_all refine' For_invVF lFq9 ?k1 ?k2 ?_; (case k1 => exact rfl); (case k2 => exact rfl); k_whole)) | walk1 | (dsimp only; walk1) | (leave1; (try dsimp only)) | fail))
        unfold Halt
        rename Fr _ _ _ _ => F9
        rename News _ _ _ _ => N9
        obtain ⟨baseb, hbb, N10⟩ := news_gen N9
        have hDb : (D2, W.listOf zs.toArray zs.length) ∈ baseb := by rw [hbb]; k_mem
        have hTb : ∀ p ∈ ps, prObj p ∈ baseb := fun p hp => by
          rw [hbb]
          have this : prObj p ∈ ps.map prObj := List.mem_map.mpr ⟨p, hp, rfl⟩
          repeat (first | exact this | apply List.mem_cons_of_mem)
        refine LCg.CompSrc.ledger (its := zs.toArray) (by rfl) F9 N10 hDb (by rw [sizeLine_eq, List.size_toArray, hzl]; omega) (fun g => ?_)
        refine rest_inv zs.toArray.size (fun i xs nw => nw = baseb ∧ StrsAre xs ((ps.map (·.2.1)).take i)) ?turnb ?finb zs.toArray.size 0 [] _ (by omega) ⟨rfl, .nil⟩
        case turnb =>
          rintro i xs nw v I oI C oC D3 m₂ h tk E' hi4 ⟨hnw, hS⟩ hv h3 h4 h5 h6 h7 h8
          rw [hnw] at h6 h7
          clear hnw
          obtain ⟨p9, hp9, rfl⟩ := pr_at hzs hv
          have hp8 := hTb p9 (List.mem_of_getElem? hp9)
          clear N10 N9 F9
          have h9 : News _ _ h ((p9.1, { cls := .type "tuple", data := .seq #[.str p9.2.1 p9.2.2.1, .str p9.2.1 p9.2.2.2] }) :: (I, oI) :: (C, oC) :: (D3, LCg.lst xs) :: baseb) := fun q hq => h6 q (by
            rcases List.mem_cons.mp hq with rfl | hq
            · exact .tail _ (.tail _ (.tail _ hp8))
            · exact hq)
          clear h6
          (repeat' (first | (k_unfold; (try dsimp only)) | (k_end; wrow_close) | with_reducible ((with_reducible show wpAny _ _ (call (Value.ref _) _) _ _ _); k_dflt (refine' con_heaps _ _ _ _ _ _ _ _ _ _ _ _ _ _ _ _ _ _ _ _ _ ?kB ?kF ?kX ?kN ?kT ?kk ?kd ?ku ?e1 ?e2 ?e3 ?_; (case kB => k_asm); (case kF => k_asm); (case kX => k_asm); (case kN => k_asm); (case kT => k_asm); (case kk => first | assumption | rfl); (case kd => ktr_room); (case ku => ke_room); (case e1 => assumption); (case e2 => assumption); (case e3 => assumption)); intro Dq9 itsq9 hsq9 hq9 tkq9 hiq9 hzq9 hnq9 Fq9 Nq9; (try k_sweep); (simp only [List.forall_mem_cons, List.not_mem_nil, false_implies, implies_true, and_true] at hnq9)) | with_reducible ((with_reducible show wpAny _ _ (compareOp CmpOp.NotEq (Value.ref _) (Value.ref _)) _ _ _); k_dflt (refine' ne_strs_same ?N ?ha ?hb ?hi ?hj ?ho ?hu ?_; (case N => k_asm); (case ha => k_mem); (case hb => k_mem); (case hi => assumption); (case hj => assumption); (case ho => assumption); (case hu => ke_room))) | with_reducible ((with_reducible show wpAny _ _ (eval (Expr.ListComp _ [PySem.Comprehension.mk _ (Expr.Tuple _ _ _) _ _] _ _) _) _ _ _); k_dflt (refine ListComp_TT (F₀ := by k_asm) (by with_unfolding_all rfl) (by decide) (by rfl) (by decide) (by rfl) ?_)) | with_reducible ((with_reducible show wpAny _ _ (eval (Expr.ListComp _ [PySem.Comprehension.mk _ _ [] _] _ _) _) _ _ _); k_dflt (refine LCg.ListComp_U (F₀ := by k_asm) (by with_unfolding_all rfl) (by decide) (by rfl) (by decide) (by rfl) ?_)) | with_reducible ((with_reducible show wpAny _ _ (eval (PySem.Expr.ListComp _ _ _ _ ) _) _ _ _); k_dflt (refine LCt.ListComp_T (F₀ := by k_asm) (by with_unfolding_all rfl) (by decide) (by rfl) (by decide) (by rfl) ?_)) | with_reducible ((with_reducible show wpAny _ _ (exec (PySem.Stmt.For _ _ _ _ _) _) _ _ _); (rename Fr _ _ _ _ => lFq9); (with_unfolding_all refine' For_invVF lFq9 ?k1 ?k2 ?_; (case k1 => exact rfl); (case k2 => exact rfl); k_whole)) | walk1 | (dsimp only; walk1) | (leave1; (try dsimp only)) | fail))
          unfold Halt
          rename Fr _ _ _ _ => F5
          rename News _ _ _ _ => N5
          exact LCg.CompEnd.intro F5 N5 _ (fun q hq => .tail _ hq) h7 (.inr ⟨_, hDb, rfl, _, rfl⟩) ⟨rfl, strs_snoc_at hS hp9⟩
        case finb =>
          rintro xs nw ⟨hnw, hS⟩
          intro D3 h tk F3 N3 O3
          rw [List.take_of_length_le (by rw [List.size_toArray, hzl, List.length_map]; omega)] at hS
          clear N10 N9 F9
          rw [hnw, hbb] at N3 O3
          clear hnw
          have hOb := off1_mem O3
          have N4 : News _ _ h ((D3, W.listOf xs.toArray xs.length) :: _) := N3
          clear N3
          have hS' : StrsAre xs (ps.map (·.2.1)) := hS
          clear hS O3
          simp only [List.forall_mem_cons] at hOb
          have hObc := hOb
          repeat (obtain ⟨_, hObc⟩ := hObc)
          have hok : ∀ x ∈ ps.map (·.2.1), PyData.strOk x = true := fun x hx => (hps.ok (fun c hc => by have := cf5 c hc; omega) x hx).1
          (repeat' (first | (k_unfold; (try dsimp only)) | (k_end; wrow_close) | with_reducible ((with_reducible show wpAny _ _ (call (Value.ref _) _) _ _ _); k_dflt (refine' con_heaps _ _ _ _ _ _ _ _ _ _ _ _ _ _ _ _ _ _ _ _ _ ?kB ?kF ?kX ?kN ?kT ?kk ?kd ?ku ?e1 ?e2 ?e3 ?_; (case kB => k_asm); (case kF => k_asm); (case kX => k_asm); (case kN => k_asm); (case kT => k_asm); (case kk => first | assumption | rfl); (case kd => ktr_room); (case ku => ke_room); (case e1 => assumption); (case e2 => assumption); (case e3 => assumption)); intro Dq9 itsq9 hsq9 hq9 tkq9 hiq9 hzq9 hnq9 Fq9 Nq9; (try k_sweep); (simp only [List.forall_mem_cons, List.not_mem_nil, false_implies, implies_true, and_true] at hnq9)) | with_reducible ((with_reducible show wpAny _ _ (compareOp CmpOp.NotEq (Value.ref _) (Value.ref _)) _ _ _); k_dflt (refine' ne_strs_same ?N ?ha ?hb ?hi ?hj ?ho ?hu ?_; (case N => k_asm); (case ha => k_mem); (case hb => k_mem); (case hi => assumption); (case hj => assumption); (case ho => assumption); (case hu => ke_room))) | with_reducible ((with_reducible show wpAny _ _ (eval (Expr.ListComp _ [PySem.Comprehension.mk _ (Expr.Tuple _ _ _) _ _] _ _) _) _ _ _); k_dflt (refine ListComp_TT (F₀ := by k_asm) (by with_unfolding_all rfl) (by decide) (by rfl) (by decide) (by rfl) ?_)) | with_reducible ((with_reducible show wpAny _ _ (eval (Expr.ListComp _ [PySem.Comprehension.mk _ _ [] _] _ _) _) _ _ _); k_dflt (refine LCg.ListComp_U (F₀ := by k_asm) (by with_unfolding_all rfl) (by decide) (by rfl) (by decide) (by rfl) ?_)) | with_reducible ((with_reducible show wpAny _ _ (eval (PySem.Expr.ListComp _ _ _ _ ) _) _ _ _); k_dflt (refine LCt.ListComp_T (F₀ := by k_asm) (by with_unfolding_all rfl) (by decide) (by rfl) (by decide) (by rfl) ?_)) | with_reducible ((with_reducible show wpAny _ _ (exec (PySem.Stmt.For _ _ _ _ _) _) _ _ _); (rename Fr _ _ _ _ => lFq9); (with_unfolding_all refine' For_invVF lFq9 ?k1 ?k2 ?_; (case k1 => exact rfl); (case k2 => exact rfl); k_whole)) | walk1 | (dsimp only; walk1) | (leave1; (try dsimp only)) | fail))
          unfold Halt
          rename Fr _ _ _ _ => F9
          rename News _ _ _ _ => N9
          have N10 := news_take [_, _, _, _, _, _, _, _, _, _, _, _, _] (news_drop [_, _] [_, _, _] (news_drop [_] [_] N9))
          clear N9
          rename _ ∧ _ => l9
          have w9 := hOa.2.2.2.2
          have z9 := l9.2.2.2.2.2.2
          refine' law_loop _ _ _ _ _ _ _ _ _ _ _ _ _ _ _ _ _ _ _ _ _ _ _ _ _ _ _ _ _ _ _ _ _ _ _ _ B (fr_ovr F9) X N10 T hd hu ?q1 ?q2 ?q3 ?q4 ?q5 ?q6 ?q7 ?q8 ?q9 ?r1 ?r2 ?r3 ?r4 ?r5 ?r6 ?r7 hCL ?g1 ?g2 ?g3 ?g4 ?g5 ?g6 (fun h' tk' m' F' => hret h' tk' m' F')
          case q1 => assumption
          case q2 => assumption
          case q3 => assumption
          case q4 => assumption
          case q5 => assumption
          case q6 => assumption
          case q7 => assumption
          case q8 => assumption
          case q9 => assumption
          case r1 => assumption
          case r2 => assumption
          case r3 => assumption
          case r4 => assumption
          case r5 => assumption
          case r6 => assumption
          case r7 => assumption
          case g1 => exact hn9
          case g2 => exact ⟨w9.1, w9.2.1, w9.2.2.1, w9.2.2.2.1, w9.2.2.2.2.1, w9.2.2.2.2.2.1, w9.2.2.2.2.2.2.1, w9.2.2.2.2.2.2.2.1, w9.2.2.2.2.2.2.2.2.1, w9.2.2.2.2.2.2.2.2.2.1⟩
          case g3 => exact ⟨z9.1, z9.2.1, z9.2.2.1, z9.2.2.2.1, z9.2.2.2.2.1, z9.2.2.2.2.2.1, z9.2.2.2.2.2.2.1, z9.2.2.2.2.2.2.2.1, z9.2.2.2.2.2.2.2.2.1, z9.2.2.2.2.2.2.2.2.2.1⟩
          case g4 => exact hOa.2.2.2.1
          case g5 => exact l9.2.2.2.2.2.1
          case g6 => exact l9.2.1
end
section
set_option linter.unusedVariables false
set_option maxRecDepth 100000
set_option maxHeartbeats 4000000
theorem kc_nine {cm : PySem.Str → Option Value} {n₁ n₂ n₃ n₄ n₅ n₆ n₇ n₈ n₉ : PySem.Str} {c₁ c₂ c₃ c₄ c₅ c₆ c₇ c₈ c₉ : Addr} {cells : List (Addr × Obj)} (x : CellsAre cm [(n₁, c₁), (n₂, c₂), (n₃, c₃), (n₄, c₄), (n₅, c₅), (n₆, c₆), (n₇, c₇), (n₈, c₈), (n₉, c₉)] cells) :
    ∃ o₁ o₂ o₃ o₄ o₅ o₆ o₇ o₈ o₉, cells = [(c₁, o₁), (c₂, o₂), (c₃, o₃), (c₄, o₄), (c₅, o₅), (c₆, o₆), (c₇, o₇), (c₈, o₈), (c₉, o₉)] ∧ o₁.data = .cell (cm n₁) ∧ o₂.data = .cell (cm n₂) ∧ o₃.data = .cell (cm n₃) ∧ o₄.data = .cell (cm n₄) ∧ o₅.data = .cell (cm n₅) ∧ o₆.data = .cell (cm n₆) ∧ o₇.data = .cell (cm n₇) ∧ o₈.data = .cell (cm n₈) ∧ o₉.data = .cell (cm n₉) := by
  cases x with | cons h r => obtain ⟨o₂, o₃, o₄, o₅, o₆, o₇, o₈, o₉, rfl, h₂, h₃, h₄, h₅, h₆, h₇, h₈, h₉⟩ := kc_eight r; exact ⟨_, o₂, o₃, o₄, o₅, o₆, o₇, o₈, o₉, rfl, h, h₂, h₃, h₄, h₅, h₆, h₇, h₈, h₉⟩
theorem kc_ten {cm : PySem.Str → Option Value} {n₁ n₂ n₃ n₄ n₅ n₆ n₇ n₈ n₉ m₁ : PySem.Str} {c₁ c₂ c₃ c₄ c₅ c₆ c₇ c₈ c₉ b₁ : Addr} {cells : List (Addr × Obj)} (x : CellsAre cm [(n₁, c₁), (n₂, c₂), (n₃, c₃), (n₄, c₄), (n₅, c₅), (n₆, c₆), (n₇, c₇), (n₈, c₈), (n₉, c₉), (m₁, b₁)] cells) :
    ∃ o₁ o₂ o₃ o₄ o₅ o₆ o₇ o₈ o₉ p₁, cells = [(c₁, o₁), (c₂, o₂), (c₃, o₃), (c₄, o₄), (c₅, o₅), (c₆, o₆), (c₇, o₇), (c₈, o₈), (c₉, o₉), (b₁, p₁)] ∧ o₁.data = .cell (cm n₁) ∧ o₂.data = .cell (cm n₂) ∧ o₃.data = .cell (cm n₃) ∧ o₄.data = .cell (cm n₄) ∧ o₅.data = .cell (cm n₅) ∧ o₆.data = .cell (cm n₆) ∧ o₇.data = .cell (cm n₇) ∧ o₈.data = .cell (cm n₈) ∧ o₉.data = .cell (cm n₉) ∧ p₁.data = .cell (cm m₁) := by
  cases x with | cons h r => obtain ⟨o₂, o₃, o₄, o₅, o₆, o₇, o₈, o₉, p₁, rfl, h₂, h₃, h₄, h₅, h₆, h₇, h₈, h₉, g₁⟩ := kc_nine r; exact ⟨_, o₂, o₃, o₄, o₅, o₆, o₇, o₈, o₉, p₁, rfl, h, h₂, h₃, h₄, h₅, h₆, h₇, h₈, h₉, g₁⟩
local macro_rules | `(tactic| cells_open $x:ident) => `(tactic| (obtain ⟨_, _, _, _, _, _, _, _, _, _, he, _, _, _, _, _, _, _, _, _, _⟩ := kc_ten $x; subst he))
local macro_rules | `(tactic| k_qdec) => `(tactic| decide +kernel)
theorem hdr : PySem.Challenge.rw_tc0088_01.Holds := by
  w_on
  refine holds_law said_ok fun said => ?_
  obtain ⟨N, hl⟩ := left
  refine holds_open (q := qV) (loose := looseN) (Xt := xT) (XP := XL qV []) (Yf := hookK.obs) (Ya := hookK.val) (YP := hookK.says) (N := N) hl hookK.of hookK.keeps (fun s e => xl_of s (Bool.and_eq_true_iff.mp e).1) XL.keeps (by rfl) (by rfl) (by rfl)
    (fun s e => recFacts_of (Bool.and_eq_true_iff.mp e).2) (by rfl) (by assumption) (by decide +kernel) ⟨rfl, rfl, rfl, rfl, rfl, by decide +kernel⟩ ?hw ?hc
  case hw => w_witness2
  w_strict k_go0
  rename Below _ _ _ _ => KB
  rename Fr _ _ _ _ => F9
  rename News _ _ _ _ => N9
  rename Frag.In _ _ => KX
  rename Top _ _ _ _ _ _ => T9
  rename Heap.IsList _ _ _ => hL9
  rename IntsAre _ _ => hI9
  refine wpAny_mono (Q := fun f s' => _) (E := fun _ _ => False) ?_ (fun _ _ x => x) (fun _ _ h => h.elim)
  refine' law_body _ _ _ _ _ _ _ _ _ _ _ _ _ _ _ _ _ _ _ _ _ _ _ _ _ KB ?F KX N9 ?d1 ?d2 ?d3 ?d4 ?d5 ?d6 ?d7 ?d8 ?d9 ?d10 T9 ?hd ?hu hL9 hI9 ?h63 ?hret
  case F => exact F9
  case d1 => assumption
  case d2 => assumption
  case d3 => assumption
  case d4 => assumption
  case d5 => assumption
  case d6 => assumption
  case d7 => assumption
  case d8 => assumption
  case d9 => assumption
  case d10 => assumption
  case hd => decide
  case hu => decide
  case h63 => omega
  case hret =>
    intro h9 tk9 m9 F10
    dsimp only
    k_steps
end
end Mine
section
set_option Elab.async false
theorem PySem.Challenge.cw_tc0088_01_holds : PySem.Challenge.rw_tc0088_01.Holds :=
  Mine.hdr
end

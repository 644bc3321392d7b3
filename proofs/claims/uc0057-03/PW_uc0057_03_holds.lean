import PyProof.Rows.All
import Wide.All
import OpenK.AllK
import Wide.FinOn
import Lean
import PySem.Challenge.RW_uc0057_03
open PySem PySem.W PyProof.Rows
set_option Elab.async false
set_option compiler.extract_closed false
set_option maxRecDepth 100000
set_option linter.unusedVariables false
set_option maxHeartbeats 4000000
local macro_rules | `(tactic| walk_at "O") => `(tactic| (first | lia | omega))
local macro_rules | `(tactic| omega) => `(tactic| lia)
namespace Uc
noncomputable def f0_args : Arguments := by
  refine (?f : (?P : Prop) → Arguments) ?qh
  refine fun (_ : PySem.Challenge.pw_uc0057_03.main.body[0]? = some (.FunctionDef ?qn ?qa ?qb ?qd ?qr ?qt ?qs ?qv ?qc ?qp)) => ?qa
  case qh => exact rfl
noncomputable def f0_body : List Stmt := by
  refine (fun (_ : PySem.Challenge.pw_uc0057_03.main.body[0]? = some (.FunctionDef ?qn ?qa ?qb ?qd ?qr ?qt ?qs ?qv ?qc ?qp)) => ?qb) ?qh
  exact rfl
noncomputable def f0_scope : Scope := by
  refine (?f : (?P : Prop) → Scope) ?qh
  refine fun (_ : PySem.Challenge.pw_uc0057_03.main.body[0]? = some (.FunctionDef ?qn ?qa ?qb ?qd ?qr ?qt ?qs ?qv ?qc ?qp)) => ?qs
  case qh => exact rfl
noncomputable def f5_args : Arguments := by
  refine (?f : (?P : Prop) → Arguments) ?qh
  refine fun (_ : PySem.Challenge.pw_uc0057_03.main.body[5]? = some (.FunctionDef ?qn ?qa ?qb ?qd ?qr ?qt ?qs ?qv ?qc ?qp)) => ?qa
  case qh => exact rfl
noncomputable def f5_body : List Stmt := by
  refine (fun (_ : PySem.Challenge.pw_uc0057_03.main.body[5]? = some (.FunctionDef ?qn ?qa ?qb ?qd ?qr ?qt ?qs ?qv ?qc ?qp)) => ?qb) ?qh
  exact rfl
noncomputable def f5_scope : Scope := by
  refine (?f : (?P : Prop) → Scope) ?qh
  refine fun (_ : PySem.Challenge.pw_uc0057_03.main.body[5]? = some (.FunctionDef ?qn ?qa ?qb ?qd ?qr ?qt ?qs ?qv ?qc ?qp)) => ?qs
  case qh => exact rfl
noncomputable def f6_args : Arguments := by
  refine (?f : (?P : Prop) → Arguments) ?qh
  refine fun (_ : PySem.Challenge.pw_uc0057_03.main.body[6]? = some (.FunctionDef ?qn ?qa ?qb ?qd ?qr ?qt ?qs ?qv ?qc ?qp)) => ?qa
  case qh => exact rfl
noncomputable def f6_body : List Stmt := by
  refine (fun (_ : PySem.Challenge.pw_uc0057_03.main.body[6]? = some (.FunctionDef ?qn ?qa ?qb ?qd ?qr ?qt ?qs ?qv ?qc ?qp)) => ?qb) ?qh
  exact rfl
noncomputable def f6_scope : Scope := by
  refine (?f : (?P : Prop) → Scope) ?qh
  refine fun (_ : PySem.Challenge.pw_uc0057_03.main.body[6]? = some (.FunctionDef ?qn ?qa ?qb ?qd ?qr ?qt ?qs ?qv ?qc ?qp)) => ?qs
  case qh => exact rfl
noncomputable def f8_cbody : List Stmt := by
  refine (fun (_ : PySem.Challenge.pw_uc0057_03.main.body[8]? = some (.ClassDef ?qn ?qa ?qb ?qd ?qr ?qt ?qs ?qv ?qc ?qp ?qu)) => ?qd) ?qh
  exact rfl
noncomputable def f8m0_args : Arguments := by
  refine (?f : (?P : Prop) → Arguments) ?qh
  refine fun (_ : f8_cbody[0]? = some (.FunctionDef ?qn ?qa ?qb ?qd ?qr ?qt ?qs ?qv ?qc ?qp)) => ?qa
  case qh => exact rfl
noncomputable def f8m0_body : List Stmt := by
  refine (fun (_ : f8_cbody[0]? = some (.FunctionDef ?qn ?qa ?qb ?qd ?qr ?qt ?qs ?qv ?qc ?qp)) => ?qb) ?qh
  exact rfl
noncomputable def f8m0_scope : Scope := by
  refine (?f : (?P : Prop) → Scope) ?qh
  refine fun (_ : f8_cbody[0]? = some (.FunctionDef ?qn ?qa ?qb ?qd ?qr ?qt ?qs ?qv ?qc ?qp)) => ?qs
  case qh => exact rfl
noncomputable def f8m1_args : Arguments := by
  refine (?f : (?P : Prop) → Arguments) ?qh
  refine fun (_ : f8_cbody[1]? = some (.FunctionDef ?qn ?qa ?qb ?qd ?qr ?qt ?qs ?qv ?qc ?qp)) => ?qa
  case qh => exact rfl
noncomputable def f8m1_body : List Stmt := by
  refine (fun (_ : f8_cbody[1]? = some (.FunctionDef ?qn ?qa ?qb ?qd ?qr ?qt ?qs ?qv ?qc ?qp)) => ?qb) ?qh
  exact rfl
noncomputable def f8m1_scope : Scope := by
  refine (?f : (?P : Prop) → Scope) ?qh
  refine fun (_ : f8_cbody[1]? = some (.FunctionDef ?qn ?qa ?qb ?qd ?qr ?qt ?qs ?qv ?qc ?qp)) => ?qs
  case qh => exact rfl
noncomputable def f8m2_args : Arguments := by
  refine (?f : (?P : Prop) → Arguments) ?qh
  refine fun (_ : f8_cbody[2]? = some (.FunctionDef ?qn ?qa ?qb ?qd ?qr ?qt ?qs ?qv ?qc ?qp)) => ?qa
  case qh => exact rfl
noncomputable def f8m2_body : List Stmt := by
  refine (fun (_ : f8_cbody[2]? = some (.FunctionDef ?qn ?qa ?qb ?qd ?qr ?qt ?qs ?qv ?qc ?qp)) => ?qb) ?qh
  exact rfl
noncomputable def f8m2_scope : Scope := by
  refine (?f : (?P : Prop) → Scope) ?qh
  refine fun (_ : f8_cbody[2]? = some (.FunctionDef ?qn ?qa ?qb ?qd ?qr ?qt ?qs ?qv ?qc ?qp)) => ?qs
  case qh => exact rfl
noncomputable def f8m3_args : Arguments := by
  refine (?f : (?P : Prop) → Arguments) ?qh
  refine fun (_ : f8_cbody[3]? = some (.FunctionDef ?qn ?qa ?qb ?qd ?qr ?qt ?qs ?qv ?qc ?qp)) => ?qa
  case qh => exact rfl
noncomputable def f8m3_body : List Stmt := by
  refine (fun (_ : f8_cbody[3]? = some (.FunctionDef ?qn ?qa ?qb ?qd ?qr ?qt ?qs ?qv ?qc ?qp)) => ?qb) ?qh
  exact rfl
noncomputable def f8m3_scope : Scope := by
  refine (?f : (?P : Prop) → Scope) ?qh
  refine fun (_ : f8_cbody[3]? = some (.FunctionDef ?qn ?qa ?qb ?qd ?qr ?qt ?qs ?qv ?qc ?qp)) => ?qs
  case qh => exact rfl
noncomputable def f11_args : Arguments := by
  refine (?f : (?P : Prop) → Arguments) ?qh
  refine fun (_ : PySem.Challenge.pw_uc0057_03.main.body[11]? = some (.FunctionDef ?qn ?qa ?qb ?qd ?qr ?qt ?qs ?qv ?qc ?qp)) => ?qa
  case qh => exact rfl
noncomputable def f11_body : List Stmt := by
  refine (fun (_ : PySem.Challenge.pw_uc0057_03.main.body[11]? = some (.FunctionDef ?qn ?qa ?qb ?qd ?qr ?qt ?qs ?qv ?qc ?qp)) => ?qb) ?qh
  exact rfl
noncomputable def f11_scope : Scope := by
  refine (?f : (?P : Prop) → Scope) ?qh
  refine fun (_ : PySem.Challenge.pw_uc0057_03.main.body[11]? = some (.FunctionDef ?qn ?qa ?qb ?qd ?qr ?qt ?qs ?qv ?qc ?qp)) => ?qs
  case qh => exact rfl
noncomputable def f13_args : Arguments := by
  refine (?f : (?P : Prop) → Arguments) ?qh
  refine fun (_ : PySem.Challenge.pw_uc0057_03.main.body[13]? = some (.FunctionDef ?qn ?qa ?qb ?qd ?qr ?qt ?qs ?qv ?qc ?qp)) => ?qa
  case qh => exact rfl
noncomputable def f13_body : List Stmt := by
  refine (fun (_ : PySem.Challenge.pw_uc0057_03.main.body[13]? = some (.FunctionDef ?qn ?qa ?qb ?qd ?qr ?qt ?qs ?qv ?qc ?qp)) => ?qb) ?qh
  exact rfl
noncomputable def f13_scope : Scope := by
  refine (?f : (?P : Prop) → Scope) ?qh
  refine fun (_ : PySem.Challenge.pw_uc0057_03.main.body[13]? = some (.FunctionDef ?qn ?qa ?qb ?qd ?qr ?qt ?qs ?qv ?qc ?qp)) => ?qs
  case qh => exact rfl
noncomputable def f15_cbody : List Stmt := by
  refine (fun (_ : PySem.Challenge.pw_uc0057_03.main.body[15]? = some (.ClassDef ?qn ?qa ?qb ?qd ?qr ?qt ?qs ?qv ?qc ?qp ?qu)) => ?qd) ?qh
  exact rfl
noncomputable def f15m1_args : Arguments := by
  refine (?f : (?P : Prop) → Arguments) ?qh
  refine fun (_ : f15_cbody[1]? = some (.FunctionDef ?qn ?qa ?qb ?qd ?qr ?qt ?qs ?qv ?qc ?qp)) => ?qa
  case qh => exact rfl
noncomputable def f15m1_body : List Stmt := by
  refine (fun (_ : f15_cbody[1]? = some (.FunctionDef ?qn ?qa ?qb ?qd ?qr ?qt ?qs ?qv ?qc ?qp)) => ?qb) ?qh
  exact rfl
noncomputable def f15m1_scope : Scope := by
  refine (?f : (?P : Prop) → Scope) ?qh
  refine fun (_ : f15_cbody[1]? = some (.FunctionDef ?qn ?qa ?qb ?qd ?qr ?qt ?qs ?qv ?qc ?qp)) => ?qs
  case qh => exact rfl
noncomputable def f15m2_args : Arguments := by
  refine (?f : (?P : Prop) → Arguments) ?qh
  refine fun (_ : f15_cbody[2]? = some (.FunctionDef ?qn ?qa ?qb ?qd ?qr ?qt ?qs ?qv ?qc ?qp)) => ?qa
  case qh => exact rfl
noncomputable def f15m2_body : List Stmt := by
  refine (fun (_ : f15_cbody[2]? = some (.FunctionDef ?qn ?qa ?qb ?qd ?qr ?qt ?qs ?qv ?qc ?qp)) => ?qb) ?qh
  exact rfl
noncomputable def f15m2_scope : Scope := by
  refine (?f : (?P : Prop) → Scope) ?qh
  refine fun (_ : f15_cbody[2]? = some (.FunctionDef ?qn ?qa ?qb ?qd ?qr ?qt ?qs ?qv ?qc ?qp)) => ?qs
  case qh => exact rfl
noncomputable def f15m3_args : Arguments := by
  refine (?f : (?P : Prop) → Arguments) ?qh
  refine fun (_ : f15_cbody[3]? = some (.FunctionDef ?qn ?qa ?qb ?qd ?qr ?qt ?qs ?qv ?qc ?qp)) => ?qa
  case qh => exact rfl
noncomputable def f15m3_body : List Stmt := by
  refine (fun (_ : f15_cbody[3]? = some (.FunctionDef ?qn ?qa ?qb ?qd ?qr ?qt ?qs ?qv ?qc ?qp)) => ?qb) ?qh
  exact rfl
noncomputable def f15m3_scope : Scope := by
  refine (?f : (?P : Prop) → Scope) ?qh
  refine fun (_ : f15_cbody[3]? = some (.FunctionDef ?qn ?qa ?qb ?qd ?qr ?qt ?qs ?qv ?qc ?qp)) => ?qs
  case qh => exact rfl
noncomputable def f15m4_args : Arguments := by
  refine (?f : (?P : Prop) → Arguments) ?qh
  refine fun (_ : f15_cbody[4]? = some (.FunctionDef ?qn ?qa ?qb ?qd ?qr ?qt ?qs ?qv ?qc ?qp)) => ?qa
  case qh => exact rfl
noncomputable def f15m4_body : List Stmt := by
  refine (fun (_ : f15_cbody[4]? = some (.FunctionDef ?qn ?qa ?qb ?qd ?qr ?qt ?qs ?qv ?qc ?qp)) => ?qb) ?qh
  exact rfl
noncomputable def f15m4_scope : Scope := by
  refine (?f : (?P : Prop) → Scope) ?qh
  refine fun (_ : f15_cbody[4]? = some (.FunctionDef ?qn ?qa ?qb ?qd ?qr ?qt ?qs ?qv ?qc ?qp)) => ?qs
  case qh => exact rfl
noncomputable def f15m5_args : Arguments := by
  refine (?f : (?P : Prop) → Arguments) ?qh
  refine fun (_ : f15_cbody[5]? = some (.FunctionDef ?qn ?qa ?qb ?qd ?qr ?qt ?qs ?qv ?qc ?qp)) => ?qa
  case qh => exact rfl
noncomputable def f15m5_body : List Stmt := by
  refine (fun (_ : f15_cbody[5]? = some (.FunctionDef ?qn ?qa ?qb ?qd ?qr ?qt ?qs ?qv ?qc ?qp)) => ?qb) ?qh
  exact rfl
noncomputable def f15m5_scope : Scope := by
  refine (?f : (?P : Prop) → Scope) ?qh
  refine fun (_ : f15_cbody[5]? = some (.FunctionDef ?qn ?qa ?qb ?qd ?qr ?qt ?qs ?qv ?qc ?qp)) => ?qs
  case qh => exact rfl
noncomputable def f15m6_args : Arguments := by
  refine (?f : (?P : Prop) → Arguments) ?qh
  refine fun (_ : f15_cbody[6]? = some (.FunctionDef ?qn ?qa ?qb ?qd ?qr ?qt ?qs ?qv ?qc ?qp)) => ?qa
  case qh => exact rfl
noncomputable def f15m6_body : List Stmt := by
  refine (fun (_ : f15_cbody[6]? = some (.FunctionDef ?qn ?qa ?qb ?qd ?qr ?qt ?qs ?qv ?qc ?qp)) => ?qb) ?qh
  exact rfl
noncomputable def f15m6_scope : Scope := by
  refine (?f : (?P : Prop) → Scope) ?qh
  refine fun (_ : f15_cbody[6]? = some (.FunctionDef ?qn ?qa ?qb ?qd ?qr ?qt ?qs ?qv ?qc ?qp)) => ?qs
  case qh => exact rfl
noncomputable def f15m7_args : Arguments := by
  refine (?f : (?P : Prop) → Arguments) ?qh
  refine fun (_ : f15_cbody[7]? = some (.FunctionDef ?qn ?qa ?qb ?qd ?qr ?qt ?qs ?qv ?qc ?qp)) => ?qa
  case qh => exact rfl
noncomputable def f15m7_body : List Stmt := by
  refine (fun (_ : f15_cbody[7]? = some (.FunctionDef ?qn ?qa ?qb ?qd ?qr ?qt ?qs ?qv ?qc ?qp)) => ?qb) ?qh
  exact rfl
noncomputable def f15m7_scope : Scope := by
  refine (?f : (?P : Prop) → Scope) ?qh
  refine fun (_ : f15_cbody[7]? = some (.FunctionDef ?qn ?qa ?qb ?qd ?qr ?qt ?qs ?qv ?qc ?qp)) => ?qs
  case qh => exact rfl
noncomputable def f17_args : Arguments := by
  refine (?f : (?P : Prop) → Arguments) ?qh
  refine fun (_ : PySem.Challenge.pw_uc0057_03.main.body[17]? = some (.FunctionDef ?qn ?qa ?qb ?qd ?qr ?qt ?qs ?qv ?qc ?qp)) => ?qa
  case qh => exact rfl
noncomputable def f17_body : List Stmt := by
  refine (fun (_ : PySem.Challenge.pw_uc0057_03.main.body[17]? = some (.FunctionDef ?qn ?qa ?qb ?qd ?qr ?qt ?qs ?qv ?qc ?qp)) => ?qb) ?qh
  exact rfl
noncomputable def f17_scope : Scope := by
  refine (?f : (?P : Prop) → Scope) ?qh
  refine fun (_ : PySem.Challenge.pw_uc0057_03.main.body[17]? = some (.FunctionDef ?qn ?qa ?qb ?qd ?qr ?qt ?qs ?qv ?qc ?qp)) => ?qs
  case qh => exact rfl
noncomputable def f18_args : Arguments := by
  refine (?f : (?P : Prop) → Arguments) ?qh
  refine fun (_ : PySem.Challenge.pw_uc0057_03.main.body[18]? = some (.FunctionDef ?qn ?qa ?qb ?qd ?qr ?qt ?qs ?qv ?qc ?qp)) => ?qa
  case qh => exact rfl
noncomputable def f18_body : List Stmt := by
  refine (fun (_ : PySem.Challenge.pw_uc0057_03.main.body[18]? = some (.FunctionDef ?qn ?qa ?qb ?qd ?qr ?qt ?qs ?qv ?qc ?qp)) => ?qb) ?qh
  exact rfl
noncomputable def f18_scope : Scope := by
  refine (?f : (?P : Prop) → Scope) ?qh
  refine fun (_ : PySem.Challenge.pw_uc0057_03.main.body[18]? = some (.FunctionDef ?qn ?qa ?qb ?qd ?qr ?qt ?qs ?qv ?qc ?qp)) => ?qs
  case qh => exact rfl
noncomputable def f19_args : Arguments := by
  refine (?f : (?P : Prop) → Arguments) ?qh
  refine fun (_ : PySem.Challenge.pw_uc0057_03.main.body[19]? = some (.FunctionDef ?qn ?qa ?qb ?qd ?qr ?qt ?qs ?qv ?qc ?qp)) => ?qa
  case qh => exact rfl
noncomputable def f19_body : List Stmt := by
  refine (fun (_ : PySem.Challenge.pw_uc0057_03.main.body[19]? = some (.FunctionDef ?qn ?qa ?qb ?qd ?qr ?qt ?qs ?qv ?qc ?qp)) => ?qb) ?qh
  exact rfl
noncomputable def f19_scope : Scope := by
  refine (?f : (?P : Prop) → Scope) ?qh
  refine fun (_ : PySem.Challenge.pw_uc0057_03.main.body[19]? = some (.FunctionDef ?qn ?qa ?qb ?qd ?qr ?qt ?qs ?qv ?qc ?qp)) => ?qs
  case qh => exact rfl
noncomputable def f20_args : Arguments := by
  refine (?f : (?P : Prop) → Arguments) ?qh
  refine fun (_ : PySem.Challenge.pw_uc0057_03.main.body[20]? = some (.FunctionDef ?qn ?qa ?qb ?qd ?qr ?qt ?qs ?qv ?qc ?qp)) => ?qa
  case qh => exact rfl
noncomputable def f20_body : List Stmt := by
  refine (fun (_ : PySem.Challenge.pw_uc0057_03.main.body[20]? = some (.FunctionDef ?qn ?qa ?qb ?qd ?qr ?qt ?qs ?qv ?qc ?qp)) => ?qb) ?qh
  exact rfl
noncomputable def f20_scope : Scope := by
  refine (?f : (?P : Prop) → Scope) ?qh
  refine fun (_ : PySem.Challenge.pw_uc0057_03.main.body[20]? = some (.FunctionDef ?qn ?qa ?qb ?qd ?qr ?qt ?qs ?qv ?qc ?qp)) => ?qs
  case qh => exact rfl
noncomputable def f21_args : Arguments := by
  refine (?f : (?P : Prop) → Arguments) ?qh
  refine fun (_ : PySem.Challenge.pw_uc0057_03.main.body[21]? = some (.FunctionDef ?qn ?qa ?qb ?qd ?qr ?qt ?qs ?qv ?qc ?qp)) => ?qa
  case qh => exact rfl
noncomputable def f21_body : List Stmt := by
  refine (fun (_ : PySem.Challenge.pw_uc0057_03.main.body[21]? = some (.FunctionDef ?qn ?qa ?qb ?qd ?qr ?qt ?qs ?qv ?qc ?qp)) => ?qb) ?qh
  exact rfl
noncomputable def f21_scope : Scope := by
  refine (?f : (?P : Prop) → Scope) ?qh
  refine fun (_ : PySem.Challenge.pw_uc0057_03.main.body[21]? = some (.FunctionDef ?qn ?qa ?qb ?qd ?qr ?qt ?qs ?qv ?qc ?qp)) => ?qs
  case qh => exact rfl
noncomputable def f22_args : Arguments := by
  refine (?f : (?P : Prop) → Arguments) ?qh
  refine fun (_ : PySem.Challenge.pw_uc0057_03.main.body[22]? = some (.FunctionDef ?qn ?qa ?qb ?qd ?qr ?qt ?qs ?qv ?qc ?qp)) => ?qa
  case qh => exact rfl
noncomputable def f22_body : List Stmt := by
  refine (fun (_ : PySem.Challenge.pw_uc0057_03.main.body[22]? = some (.FunctionDef ?qn ?qa ?qb ?qd ?qr ?qt ?qs ?qv ?qc ?qp)) => ?qb) ?qh
  exact rfl
noncomputable def f22_scope : Scope := by
  refine (?f : (?P : Prop) → Scope) ?qh
  refine fun (_ : PySem.Challenge.pw_uc0057_03.main.body[22]? = some (.FunctionDef ?qn ?qa ?qb ?qd ?qr ?qt ?qs ?qv ?qc ?qp)) => ?qs
  case qh => exact rfl
noncomputable def f23_args : Arguments := by
  refine (?f : (?P : Prop) → Arguments) ?qh
  refine fun (_ : PySem.Challenge.pw_uc0057_03.main.body[23]? = some (.FunctionDef ?qn ?qa ?qb ?qd ?qr ?qt ?qs ?qv ?qc ?qp)) => ?qa
  case qh => exact rfl
noncomputable def f23_body : List Stmt := by
  refine (fun (_ : PySem.Challenge.pw_uc0057_03.main.body[23]? = some (.FunctionDef ?qn ?qa ?qb ?qd ?qr ?qt ?qs ?qv ?qc ?qp)) => ?qb) ?qh
  exact rfl
noncomputable def f23_scope : Scope := by
  refine (?f : (?P : Prop) → Scope) ?qh
  refine fun (_ : PySem.Challenge.pw_uc0057_03.main.body[23]? = some (.FunctionDef ?qn ?qa ?qb ?qd ?qr ?qt ?qs ?qv ?qc ?qp)) => ?qs
  case qh => exact rfl
noncomputable def o3 (P : Params) : Obj := ⟨(.type "dict"), none, (.dict [⟨PyData.keyHash P (Str.ofString "__name__"), (.str (Str.ofString "__name__") 165), (.str (Str.ofString "law_uc0057_03") 2416)⟩, ⟨PyData.keyHash P (Str.ofString "__doc__"), (.str (Str.ofString "__doc__") 166), .none⟩, ⟨PyData.keyHash P (Str.ofString "__package__"), (.str (Str.ofString "__package__") 167), .none⟩, ⟨PyData.keyHash P (Str.ofString "__loader__"), (.str (Str.ofString "__loader__") 168), (.builtin "__main__.__loader__#opaque")⟩, ⟨PyData.keyHash P (Str.ofString "__spec__"), (.str (Str.ofString "__spec__") 169), .none⟩, ⟨PyData.keyHash P (Str.ofString "__annotations__"), (.str (Str.ofString "__annotations__") 170), (.ref 6)⟩, ⟨PyData.keyHash P (Str.ofString "__builtins__"), (.str (Str.ofString "__builtins__") 171), (.ref 4)⟩, ⟨PyData.keyHash P (Str.ofString "__file__"), (.str (Str.ofString "__file__") 173), (.str (Str.ofString "/claim/cut.py") 172)⟩, ⟨PyData.keyHash P (Str.ofString "__cached__"), (.str (Str.ofString "__cached__") 174), .none⟩, ⟨PyData.keyHash P (Str.ofString "_wall"), (.str (Str.ofString "_wall") 193), (.ref 21)⟩, ⟨PyData.keyHash P (Str.ofString "_MAX_STRING_SIZE"), (.str (Str.ofString "_MAX_STRING_SIZE") 197), (.int (40) 196)⟩, ⟨PyData.keyHash P (Str.ofString "_MOVE_COST"), (.str (Str.ofString "_MOVE_COST") 199), (.int (2) 198)⟩, ⟨PyData.keyHash P (Str.ofString "_CASE_COST"), (.str (Str.ofString "_CASE_COST") 201), (.int (1) 200)⟩, ⟨PyData.keyHash P (Str.ofString "_substitution_cost"), (.str (Str.ofString "_substitution_cost") 209), (.ref 28)⟩, ⟨PyData.keyHash P (Str.ofString "_levenshtein_distance"), (.str (Str.ofString "_levenshtein_distance") 229), (.ref 35)⟩, ⟨PyData.keyHash P (Str.ofString "_netrclex"), (.str (Str.ofString "_netrclex") 289), (.ref 73)⟩, ⟨PyData.keyHash P (Str.ofString "b1_set"), (.str (Str.ofString "b1_set") 351), (.ref 85)⟩, ⟨PyData.keyHash P (Str.ofString "in_table_b1"), (.str (Str.ofString "in_table_b1") 358), (.ref 95)⟩, ⟨PyData.keyHash P (Str.ofString "b3_exceptions"), (.str (Str.ofString "b3_exceptions") 2309), (.ref 96)⟩, ⟨PyData.keyHash P (Str.ofString "map_table_b3"), (.str (Str.ofString "map_table_b3") 2317), (.ref 141)⟩, ⟨PyData.keyHash P (Str.ofString "Whitespace"), (.str (Str.ofString "Whitespace") 2415), (.ref 203)⟩, ⟨PyData.keyHash P (Str.ofString "_law_lexer"), (.str (Str.ofString "_law_lexer") 2426), (.ref 214)⟩, ⟨PyData.keyHash P (Str.ofString "_law_spelled"), (.str (Str.ofString "_law_spelled") 2432), (.ref 219)⟩, ⟨PyData.keyHash P (Str.ofString "_law_kept"), (.str (Str.ofString "_law_kept") 2438), (.ref 224)⟩, ⟨PyData.keyHash P (Str.ofString "_law_lead"), (.str (Str.ofString "_law_lead") 2449), (.ref 231)⟩, ⟨PyData.keyHash P (Str.ofString "_law_far"), (.str (Str.ofString "_law_far") 2455), (.ref 236)⟩, ⟨PyData.keyHash P (Str.ofString "_law_dearest"), (.str (Str.ofString "_law_dearest") 2461), (.ref 241)⟩, ⟨PyData.keyHash P (Str.ofString "law"), (.str (Str.ofString "law") 2467), (.ref 246)⟩].toArray 28), [].toArray⟩
noncomputable def o4 (P : Params) : Obj := ⟨(.type "module"), (some 0), .plain, [].toArray⟩
noncomputable def o5 (P : Params) : Obj := ⟨(.type "module"), (some 3), .plain, [].toArray⟩
noncomputable def o6 (P : Params) : Obj := ⟨(.type "dict"), none, (.dict [].toArray 0), [].toArray⟩
noncomputable def o7 (P : Params) : Obj := ⟨(.type "tuple"), none, (.seq [].toArray 0), [].toArray⟩
noncomputable def o9 (P : Params) : Obj := ⟨(.type "code"), none, (.fields [(.str (Str.ofString "<module>") 176), (.str (Str.ofString "<module>") 177), (.str (Str.ofString "/claim/cut.py") 178), (.int (1) 0), (.int (0) 0), (.int (0) 0), (.int (0) 0), (.int (0) 0), (.ref 7), (.bool false), (.int (175) 0), (.ref 8), .none, .none, .none, .none, (.int (179) 0), (.int (1) 0), (.str (Str.ofString "/claim/cut.py") 180)].toArray), [].toArray⟩
noncomputable def o10 (P : Params) : Obj := ⟨(.type "frame"), none, .plain, [(some (.ref 9)), (some (.ref 3)), (some (.ref 3)), none, (some (.str (Str.ofString "__main__") 164)), none, (some (.ref 0))].toArray⟩
noncomputable def o11 (P : Params) : Obj := ⟨(.type "tuple"), none, (.seq [].toArray 0), [].toArray⟩
noncomputable def o13 (P : Params) : Obj := ⟨(.type "code"), none, (.fields [(.str (Str.ofString "<module>") 182), (.str (Str.ofString "<module>") 183), (.str (Str.ofString "/claim/cut.py") 184), (.int (1) 0), (.int (0) 0), (.int (0) 0), (.int (0) 0), (.int (0) 0), (.ref 11), (.bool false), (.int (181) 0), (.ref 12), .none, .none, .none, .none, (.int (185) 0), (.int (1) 0), (.str (Str.ofString "/claim/cut.py") 186)].toArray), [].toArray⟩
noncomputable def o14 (P : Params) : Obj := ⟨(.type "frame"), none, .plain, [(some (.ref 13)), (some (.ref 3)), (some (.ref 3)), none, (some (.str (Str.ofString "__main__") 164)), none, (some (.ref 0))].toArray⟩
noncomputable def o15 (P : Params) : Obj := ⟨(.type "tuple"), none, (.seq [].toArray 0), [].toArray⟩
noncomputable def o17 (P : Params) : Obj := ⟨(.type "tuple"), none, (.seq [(.str (Str.ofString "k") 190)].toArray 0), [].toArray⟩
noncomputable def o18 (P : Params) : Obj := ⟨(.type "tuple"), none, (.seq [].toArray 0), [].toArray⟩
noncomputable def o20 (P : Params) : Obj := ⟨(.type "code"), none, (.fields [(.str (Str.ofString "_wall") 187), (.str (Str.ofString "_wall") 188), (.str (Str.ofString "/claim/cut.py") 189), (.int (1) 0), (.int (1) 0), (.int (0) 0), (.int (0) 0), (.int (3) 0), (.ref 15), (.bool true), (.int (181) 0), (.ref 16), .none, (.ref 17), (.ref 18), (.ref 19), (.int (191) 0), (.int (1) 0), (.str (Str.ofString "/claim/cut.py") 192)].toArray), [].toArray⟩
noncomputable def o21 (P : Params) : Obj := ⟨(.type "function"), none, (.func { name := (Str.ofString "_wall"), qualname := (Str.ofString "_wall"), params := f0_args, body := .stmts f0_body, scope := f0_scope, globals := 3, closure := [], defaults := .none, kwdefaults := .none, doc := .none, pyModule := (.str (Str.ofString "__main__") 164), annotations := none, code := (.ref 20), closureTuple := .none, builtins := 0 }), [].toArray⟩
noncomputable def o22 (P : Params) : Obj := ⟨(.type "tuple"), none, (.seq [].toArray 0), [].toArray⟩
noncomputable def o24 (P : Params) : Obj := ⟨(.type "tuple"), none, (.seq [(.str (Str.ofString "ch_a") 205), (.str (Str.ofString "ch_b") 206)].toArray 0), [].toArray⟩
noncomputable def o25 (P : Params) : Obj := ⟨(.type "tuple"), none, (.seq [].toArray 0), [].toArray⟩
noncomputable def o27 (P : Params) : Obj := ⟨(.type "code"), none, (.fields [(.str (Str.ofString "_substitution_cost") 202), (.str (Str.ofString "_substitution_cost") 203), (.str (Str.ofString "/claim/cut.py") 204), (.int (8) 0), (.int (2) 0), (.int (0) 0), (.int (0) 0), (.int (3) 0), (.ref 22), (.bool true), (.int (181) 0), (.ref 23), .none, (.ref 24), (.ref 25), (.ref 26), (.int (207) 0), (.int (8) 0), (.str (Str.ofString "/claim/cut.py") 208)].toArray), [].toArray⟩
noncomputable def o28 (P : Params) : Obj := ⟨(.type "function"), none, (.func { name := (Str.ofString "_substitution_cost"), qualname := (Str.ofString "_substitution_cost"), params := f5_args, body := .stmts f5_body, scope := f5_scope, globals := 3, closure := [], defaults := .none, kwdefaults := .none, doc := .none, pyModule := (.str (Str.ofString "cpy313.traceback") 194), annotations := none, code := (.ref 27), closureTuple := .none, builtins := 0 }), [].toArray⟩
noncomputable def o29 (P : Params) : Obj := ⟨(.type "tuple"), none, (.seq [].toArray 0), [].toArray⟩
noncomputable def o31 (P : Params) : Obj := ⟨(.type "tuple"), none, (.seq [(.str (Str.ofString "a") 213), (.str (Str.ofString "b") 214), (.str (Str.ofString "max_cost") 215), (.str (Str.ofString "pre") 216), (.str (Str.ofString "post") 217), (.str (Str.ofString "row") 218), (.str (Str.ofString "result") 219), (.str (Str.ofString "bindex") 220), (.str (Str.ofString "bchar") 221), (.str (Str.ofString "distance") 222), (.str (Str.ofString "minimum") 223), (.str (Str.ofString "index") 224), (.str (Str.ofString "substitute") 225), (.str (Str.ofString "insert_delete") 226)].toArray 0), [].toArray⟩
noncomputable def o32 (P : Params) : Obj := ⟨(.type "tuple"), none, (.seq [].toArray 0), [].toArray⟩
noncomputable def o34 (P : Params) : Obj := ⟨(.type "code"), none, (.fields [(.str (Str.ofString "_levenshtein_distance") 210), (.str (Str.ofString "_levenshtein_distance") 211), (.str (Str.ofString "/claim/cut.py") 212), (.int (14) 0), (.int (3) 0), (.int (0) 0), (.int (0) 0), (.int (3) 0), (.ref 29), (.bool true), (.int (181) 0), (.ref 30), .none, (.ref 31), (.ref 32), (.ref 33), (.int (227) 0), (.int (14) 0), (.str (Str.ofString "/claim/cut.py") 228)].toArray), [].toArray⟩
noncomputable def o35 (P : Params) : Obj := ⟨(.type "function"), none, (.func { name := (Str.ofString "_levenshtein_distance"), qualname := (Str.ofString "_levenshtein_distance"), params := f6_args, body := .stmts f6_body, scope := f6_scope, globals := 3, closure := [], defaults := .none, kwdefaults := .none, doc := .none, pyModule := (.str (Str.ofString "cpy313.traceback") 194), annotations := none, code := (.ref 34), closureTuple := .none, builtins := 0 }), [].toArray⟩
noncomputable def o36 (P : Params) : Obj := ⟨(.type "tuple"), none, (.seq [].toArray 0), [].toArray⟩
noncomputable def o37 (P : Params) : Obj := ⟨(.type "builtin_function_or_method"), none, (.fields [(.builtin "type.__prepare__"), (.type "type")].toArray), [].toArray⟩
noncomputable def o38 (P : Params) : Obj := ⟨(.type "dict"), none, (.dict [⟨PyData.keyHash P (Str.ofString "__module__"), (.str (Str.ofString "__module__") 239), (.str (Str.ofString "cpy313.netrc") 230)⟩, ⟨PyData.keyHash P (Str.ofString "__qualname__"), (.str (Str.ofString "__qualname__") 241), (.str (Str.ofString "_netrclex") 240)⟩, ⟨PyData.keyHash P (Str.ofString "__firstlineno__"), (.str (Str.ofString "__firstlineno__") 243), (.int (53) 242)⟩, ⟨PyData.keyHash P (Str.ofString "__init__"), (.str (Str.ofString "__init__") 251), (.ref 49)⟩, ⟨PyData.keyHash P (Str.ofString "_read_char"), (.str (Str.ofString "_read_char") 259), (.ref 56)⟩, ⟨PyData.keyHash P (Str.ofString "get_token"), (.str (Str.ofString "get_token") 269), (.ref 63)⟩, ⟨PyData.keyHash P (Str.ofString "push_token"), (.str (Str.ofString "push_token") 277), (.ref 70)⟩, ⟨PyData.keyHash P (Str.ofString "__static_attributes__"), (.str (Str.ofString "__static_attributes__") 282), (.ref 71)⟩].toArray 8), [].toArray⟩
noncomputable def o39 (P : Params) : Obj := ⟨(.type "tuple"), none, (.seq [].toArray 0), [].toArray⟩
noncomputable def o41 (P : Params) : Obj := ⟨(.type "code"), none, (.fields [(.str (Str.ofString "_netrclex") 234), (.str (Str.ofString "_netrclex") 235), (.str (Str.ofString "/claim/cut.py") 236), (.int (53) 0), (.int (0) 0), (.int (0) 0), (.int (0) 0), (.int (0) 0), (.ref 39), (.bool false), (.int (181) 0), (.ref 40), .none, .none, .none, .none, (.int (237) 0), (.int (53) 0), (.str (Str.ofString "/claim/cut.py") 238)].toArray), [].toArray⟩
noncomputable def o42 (P : Params) : Obj := ⟨(.type "frame"), none, .plain, [(some (.ref 41)), (some (.ref 3)), (some (.ref 38)), none, (some (.str (Str.ofString "cpy313.netrc") 230)), none, (some (.ref 0))].toArray⟩
noncomputable def o43 (P : Params) : Obj := ⟨(.type "tuple"), none, (.seq [].toArray 0), [].toArray⟩
noncomputable def o45 (P : Params) : Obj := ⟨(.type "tuple"), none, (.seq [(.str (Str.ofString "self") 247), (.str (Str.ofString "fp") 248)].toArray 0), [].toArray⟩
noncomputable def o46 (P : Params) : Obj := ⟨(.type "tuple"), none, (.seq [].toArray 0), [].toArray⟩
noncomputable def o48 (P : Params) : Obj := ⟨(.type "code"), none, (.fields [(.str (Str.ofString "__init__") 244), (.str (Str.ofString "_netrclex.__init__") 245), (.str (Str.ofString "/claim/cut.py") 246), (.int (55) 0), (.int (2) 0), (.int (0) 0), (.int (0) 0), (.int (3) 0), (.ref 43), (.bool true), (.int (181) 0), (.ref 44), .none, (.ref 45), (.ref 46), (.ref 47), (.int (249) 0), (.int (55) 0), (.str (Str.ofString "/claim/cut.py") 250)].toArray), [].toArray⟩
noncomputable def o49 (P : Params) : Obj := ⟨(.type "function"), none, (.func { name := (Str.ofString "__init__"), qualname := (Str.ofString "_netrclex.__init__"), params := f8m0_args, body := .stmts f8m0_body, scope := f8m0_scope, globals := 3, closure := [], defaults := .none, kwdefaults := .none, doc := .none, pyModule := (.str (Str.ofString "cpy313.netrc") 230), annotations := none, code := (.ref 48), closureTuple := .none, builtins := 0 }), [].toArray⟩
noncomputable def o50 (P : Params) : Obj := ⟨(.type "tuple"), none, (.seq [].toArray 0), [].toArray⟩
noncomputable def o52 (P : Params) : Obj := ⟨(.type "tuple"), none, (.seq [(.str (Str.ofString "self") 255), (.str (Str.ofString "ch") 256)].toArray 0), [].toArray⟩
noncomputable def o53 (P : Params) : Obj := ⟨(.type "tuple"), none, (.seq [].toArray 0), [].toArray⟩
noncomputable def o55 (P : Params) : Obj := ⟨(.type "code"), none, (.fields [(.str (Str.ofString "_read_char") 252), (.str (Str.ofString "_netrclex._read_char") 253), (.str (Str.ofString "/claim/cut.py") 254), (.int (61) 0), (.int (1) 0), (.int (0) 0), (.int (0) 0), (.int (3) 0), (.ref 50), (.bool true), (.int (181) 0), (.ref 51), .none, (.ref 52), (.ref 53), (.ref 54), (.int (257) 0), (.int (61) 0), (.str (Str.ofString "/claim/cut.py") 258)].toArray), [].toArray⟩
noncomputable def o56 (P : Params) : Obj := ⟨(.type "function"), none, (.func { name := (Str.ofString "_read_char"), qualname := (Str.ofString "_netrclex._read_char"), params := f8m1_args, body := .stmts f8m1_body, scope := f8m1_scope, globals := 3, closure := [], defaults := .none, kwdefaults := .none, doc := .none, pyModule := (.str (Str.ofString "cpy313.netrc") 230), annotations := none, code := (.ref 55), closureTuple := .none, builtins := 0 }), [].toArray⟩
noncomputable def o57 (P : Params) : Obj := ⟨(.type "tuple"), none, (.seq [].toArray 0), [].toArray⟩
noncomputable def o59 (P : Params) : Obj := ⟨(.type "tuple"), none, (.seq [(.str (Str.ofString "self") 263), (.str (Str.ofString "token") 264), (.str (Str.ofString "fiter") 265), (.str (Str.ofString "ch") 266)].toArray 0), [].toArray⟩
noncomputable def o60 (P : Params) : Obj := ⟨(.type "tuple"), none, (.seq [].toArray 0), [].toArray⟩
noncomputable def o62 (P : Params) : Obj := ⟨(.type "code"), none, (.fields [(.str (Str.ofString "get_token") 260), (.str (Str.ofString "_netrclex.get_token") 261), (.str (Str.ofString "/claim/cut.py") 262), (.int (67) 0), (.int (1) 0), (.int (0) 0), (.int (0) 0), (.int (3) 0), (.ref 57), (.bool true), (.int (181) 0), (.ref 58), .none, (.ref 59), (.ref 60), (.ref 61), (.int (267) 0), (.int (67) 0), (.str (Str.ofString "/claim/cut.py") 268)].toArray), [].toArray⟩
noncomputable def o63 (P : Params) : Obj := ⟨(.type "function"), none, (.func { name := (Str.ofString "get_token"), qualname := (Str.ofString "_netrclex.get_token"), params := f8m2_args, body := .stmts f8m2_body, scope := f8m2_scope, globals := 3, closure := [], defaults := .none, kwdefaults := .none, doc := .none, pyModule := (.str (Str.ofString "cpy313.netrc") 230), annotations := none, code := (.ref 62), closureTuple := .none, builtins := 0 }), [].toArray⟩
noncomputable def o64 (P : Params) : Obj := ⟨(.type "tuple"), none, (.seq [].toArray 0), [].toArray⟩
noncomputable def o66 (P : Params) : Obj := ⟨(.type "tuple"), none, (.seq [(.str (Str.ofString "self") 273), (.str (Str.ofString "token") 274)].toArray 0), [].toArray⟩
noncomputable def o67 (P : Params) : Obj := ⟨(.type "tuple"), none, (.seq [].toArray 0), [].toArray⟩
noncomputable def o69 (P : Params) : Obj := ⟨(.type "code"), none, (.fields [(.str (Str.ofString "push_token") 270), (.str (Str.ofString "_netrclex.push_token") 271), (.str (Str.ofString "/claim/cut.py") 272), (.int (94) 0), (.int (2) 0), (.int (0) 0), (.int (0) 0), (.int (3) 0), (.ref 64), (.bool true), (.int (181) 0), (.ref 65), .none, (.ref 66), (.ref 67), (.ref 68), (.int (275) 0), (.int (94) 0), (.str (Str.ofString "/claim/cut.py") 276)].toArray), [].toArray⟩
noncomputable def o70 (P : Params) : Obj := ⟨(.type "function"), none, (.func { name := (Str.ofString "push_token"), qualname := (Str.ofString "_netrclex.push_token"), params := f8m3_args, body := .stmts f8m3_body, scope := f8m3_scope, globals := 3, closure := [], defaults := .none, kwdefaults := .none, doc := .none, pyModule := (.str (Str.ofString "cpy313.netrc") 230), annotations := none, code := (.ref 69), closureTuple := .none, builtins := 0 }), [].toArray⟩
noncomputable def o71 (P : Params) : Obj := ⟨(.type "tuple"), none, (.seq [(.str (Str.ofString "instream") 278), (.str (Str.ofString "lineno") 279), (.str (Str.ofString "pushback") 280), (.str (Str.ofString "whitespace") 281)].toArray 0), [].toArray⟩
noncomputable def o72 (P : Params) : Obj := ⟨(.type "dict"), none, (.dict [⟨PyData.keyHash P (Str.ofString "__module__"), (.str (Str.ofString "__module__") 239), (.str (Str.ofString "cpy313.netrc") 230)⟩, ⟨PyData.keyHash P (Str.ofString "__firstlineno__"), (.str (Str.ofString "__firstlineno__") 243), (.int (53) 242)⟩, ⟨PyData.keyHash P (Str.ofString "__init__"), (.str (Str.ofString "__init__") 251), (.ref 49)⟩, ⟨PyData.keyHash P (Str.ofString "_read_char"), (.str (Str.ofString "_read_char") 259), (.ref 56)⟩, ⟨PyData.keyHash P (Str.ofString "get_token"), (.str (Str.ofString "get_token") 269), (.ref 63)⟩, ⟨PyData.keyHash P (Str.ofString "push_token"), (.str (Str.ofString "push_token") 277), (.ref 70)⟩, ⟨PyData.keyHash P (Str.ofString "__static_attributes__"), (.str (Str.ofString "__static_attributes__") 282), (.ref 71)⟩, ⟨PyData.keyHash P (Str.ofString "__dict__"), (.str (Str.ofString "__dict__") 284), (.ref 74)⟩, ⟨PyData.keyHash P (Str.ofString "__weakref__"), (.str (Str.ofString "__weakref__") 286), (.ref 75)⟩, ⟨PyData.keyHash P (Str.ofString "__doc__"), (.str (Str.ofString "__doc__") 287), .none⟩].toArray 4), [].toArray⟩
noncomputable def o73 (P : Params) : Obj := ⟨(.type "type"), none, (.cls { name := (Str.ofString "_netrclex"), bases := [(.type "object")], mro := [(.ref 73), (.type "object")], ns := 72, qualname := (Str.ofString "_netrclex"), hasDict := true, slotNames := [], subclasses := [], abstract := false, collection := none, hasDel := false }), [none, none, (some (.str (Str.ofString "_netrclex") 232)), (some (.str (Str.ofString "_netrclex") 240)), (some (.builtin "object.__new__")), (some (.bool true))].toArray⟩
noncomputable def o74 (P : Params) : Obj := ⟨(.type "getset_descriptor"), none, (.fields [(.str (Str.ofString "__dict__") 283), (.ref 73), (.builtin "function.__dict__"), (.builtin "function.__dict__#set")].toArray), [].toArray⟩
noncomputable def o75 (P : Params) : Obj := ⟨(.type "getset_descriptor"), none, (.fields [(.str (Str.ofString "__weakref__") 285), (.ref 73), (.builtin "ExceptionGroup.__weakref__"), .none].toArray), [].toArray⟩
noncomputable def o76 (P : Params) : Obj := ⟨(.type "super"), none, (.fields [(.ref 73), (.ref 73), (.ref 73)].toArray), [].toArray⟩
noncomputable def o77 (P : Params) : Obj := ⟨(.type "builtin_function_or_method"), none, (.fields [(.builtin "object.__init_subclass__"), (.ref 73)].toArray), [].toArray⟩
noncomputable def o78 (P : Params) : Obj := ⟨(.type "list"), none, (.seq [(.int (173) 292), (.int (847) 293), (.int (6150) 294), (.int (6155) 295), (.int (6156) 296), (.int (6157) 297), (.int (8203) 298), (.int (8204) 299), (.int (8205) 300), (.int (8288) 301), (.int (65279) 302)].toArray 0), [].toArray⟩
noncomputable def o79 (P : Params) : Obj := ⟨(.type "range"), none, (.fields [(.int (65024) 303), (.int (65040) 304), (.int (1) 305)].toArray), [].toArray⟩
noncomputable def o80 (P : Params) : Obj := ⟨(.type "list"), none, (.seq [(.int (65024) 308), (.int (65025) 309), (.int (65026) 310), (.int (65027) 311), (.int (65028) 312), (.int (65029) 313), (.int (65030) 314), (.int (65031) 315), (.int (65032) 316), (.int (65033) 317), (.int (65034) 318), (.int (65035) 319), (.int (65036) 320), (.int (65037) 321), (.int (65038) 322), (.int (65039) 323)].toArray 18), [].toArray⟩
noncomputable def o81 (P : Params) : Obj := ⟨(.type "range_iterator"), none, (.fields [(.int (65040) 0), (.int (0) 0), (.int (1) 0)].toArray), [].toArray⟩
noncomputable def o82 (P : Params) : Obj := ⟨(.type "tuple"), none, (.seq [].toArray 0), [].toArray⟩
noncomputable def o83 (P : Params) : Obj := ⟨(.type "StopIteration"), none, (.fields [(.ref 82), .none, .none, .none, (.bool false), .none].toArray), [].toArray⟩
noncomputable def o84 (P : Params) : Obj := ⟨(.type "list"), none, (.seq [(.int (173) 292), (.int (847) 293), (.int (6150) 294), (.int (6155) 295), (.int (6156) 296), (.int (6157) 297), (.int (8203) 298), (.int (8204) 299), (.int (8205) 300), (.int (8288) 301), (.int (65279) 302), (.int (65024) 308), (.int (65025) 309), (.int (65026) 310), (.int (65027) 311), (.int (65028) 312), (.int (65029) 313), (.int (65030) 314), (.int (65031) 315), (.int (65032) 316), (.int (65033) 317), (.int (65034) 318), (.int (65035) 319), (.int (65036) 320), (.int (65037) 321), (.int (65038) 322), (.int (65039) 323)].toArray 0), [].toArray⟩
noncomputable def o85 (P : Params) : Obj := ⟨(.type "set"), none, (.set [(65024, (.int (65024) 308)), (65025, (.int (65025) 309)), (65026, (.int (65026) 310)), (65027, (.int (65027) 311)), (65028, (.int (65028) 312)), (65029, (.int (65029) 313)), (6150, (.int (6150) 294)), (65030, (.int (65030) 314)), (65031, (.int (65031) 315)), (65032, (.int (65032) 316)), (65033, (.int (65033) 317)), (6155, (.int (6155) 295)), (6156, (.int (6156) 296)), (6157, (.int (6157) 297)), (8203, (.int (8203) 298)), (8204, (.int (8204) 299)), (8205, (.int (8205) 300)), (65034, (.int (65034) 318)), (65035, (.int (65035) 319)), (65036, (.int (65036) 320)), (65037, (.int (65037) 321)), (65038, (.int (65038) 322)), (65039, (.int (65039) 323)), (173, (.int (173) 292)), (847, (.int (847) 293)), (8288, (.int (8288) 301)), (65279, (.int (65279) 302))].toArray 29 { mask := 127, place := #[0, 1, 2, 3, 4, 5, 6, 7, 8, 9, 10, 11, 12, 13, 14, 15, 16, 17, 18, 19, 20, 21, 22, 45, 79, 96, 127], dummies := #[], finger := 0, led := !P.followText "set-order", moves := 2, plain := true }), [].toArray⟩
noncomputable def o86 (P : Params) : Obj := ⟨(.type "list_iterator"), none, (.fields [.none, (.int (27) 0)].toArray), [].toArray⟩
noncomputable def o87 (P : Params) : Obj := ⟨(.type "tuple"), none, (.seq [].toArray 0), [].toArray⟩
noncomputable def o88 (P : Params) : Obj := ⟨(.type "StopIteration"), none, (.fields [(.ref 87), .none, .none, .none, (.bool false), .none].toArray), [].toArray⟩
noncomputable def o89 (P : Params) : Obj := ⟨(.type "tuple"), none, (.seq [].toArray 0), [].toArray⟩
noncomputable def o91 (P : Params) : Obj := ⟨(.type "tuple"), none, (.seq [(.str (Str.ofString "code") 355)].toArray 0), [].toArray⟩
noncomputable def o92 (P : Params) : Obj := ⟨(.type "tuple"), none, (.seq [].toArray 0), [].toArray⟩
noncomputable def o94 (P : Params) : Obj := ⟨(.type "code"), none, (.fields [(.str (Str.ofString "in_table_b1") 352), (.str (Str.ofString "in_table_b1") 353), (.str (Str.ofString "/claim/cut.py") 354), (.int (98) 0), (.int (1) 0), (.int (0) 0), (.int (0) 0), (.int (3) 0), (.ref 89), (.bool true), (.int (181) 0), (.ref 90), .none, (.ref 91), (.ref 92), (.ref 93), (.int (356) 0), (.int (98) 0), (.str (Str.ofString "/claim/cut.py") 357)].toArray), [].toArray⟩
noncomputable def o95 (P : Params) : Obj := ⟨(.type "function"), none, (.func { name := (Str.ofString "in_table_b1"), qualname := (Str.ofString "in_table_b1"), params := f11_args, body := .stmts f11_body, scope := f11_scope, globals := 3, closure := [], defaults := .none, kwdefaults := .none, doc := .none, pyModule := (.str (Str.ofString "cpy313.stringprep") 290), annotations := none, code := (.ref 94), closureTuple := .none, builtins := 0 }), [].toArray⟩
noncomputable def tabS : Stmt := (PySem.Challenge.pw_uc0057_03.main.body[12]?).getD (.Pass ⟨0, 0, 0, 0⟩)
noncomputable def tabKeys : List (Option Expr) := match tabS with | .Assign _ (.Dict k _ _) _ => k | _ => []
noncomputable def tabVals : List Expr := match tabS with | .Assign _ (.Dict _ v _) _ => v | _ => []
noncomputable def tabTok (i : Nat) : Nat := bif Nat.blt i 647 then 359 + 3 * i else 2299 + 2 * (i - 647)
noncomputable def tabFrom : Nat → List (Option Expr) → List Expr → List DictEntry
  | i, some (.Constant (.int k) _ _) :: ks, .Constant (.str v) _ _ :: vs => ⟨k, .int k (tabTok i), .str v (tabTok i + 1)⟩ :: tabFrom (i + 1) ks vs
  | _, _, _ => []
noncomputable def o96 (_ : Params) : Obj := ⟨.type "dict", none, .dict (tabFrom 0 tabKeys tabVals).toArray 650, [].toArray⟩
noncomputable def o135 (P : Params) : Obj := ⟨(.type "tuple"), none, (.seq [].toArray 0), [].toArray⟩
noncomputable def o137 (P : Params) : Obj := ⟨(.type "tuple"), none, (.seq [(.str (Str.ofString "code") 2313), (.str (Str.ofString "r") 2314)].toArray 0), [].toArray⟩
noncomputable def o138 (P : Params) : Obj := ⟨(.type "tuple"), none, (.seq [].toArray 0), [].toArray⟩
noncomputable def o140 (P : Params) : Obj := ⟨(.type "code"), none, (.fields [(.str (Str.ofString "map_table_b3") 2310), (.str (Str.ofString "map_table_b3") 2311), (.str (Str.ofString "/claim/cut.py") 2312), (.int (101) 0), (.int (1) 0), (.int (0) 0), (.int (0) 0), (.int (3) 0), (.ref 135), (.bool true), (.int (181) 0), (.ref 136), .none, (.ref 137), (.ref 138), (.ref 139), (.int (2315) 0), (.int (101) 0), (.str (Str.ofString "/claim/cut.py") 2316)].toArray), [].toArray⟩
noncomputable def o141 (P : Params) : Obj := ⟨(.type "function"), none, (.func { name := (Str.ofString "map_table_b3"), qualname := (Str.ofString "map_table_b3"), params := f13_args, body := .stmts f13_body, scope := f13_scope, globals := 3, closure := [], defaults := .none, kwdefaults := .none, doc := .none, pyModule := (.str (Str.ofString "cpy313.stringprep") 290), annotations := none, code := (.ref 140), closureTuple := .none, builtins := 0 }), [].toArray⟩
noncomputable def o142 (P : Params) : Obj := ⟨(.type "tuple"), none, (.seq [].toArray 0), [].toArray⟩
noncomputable def o143 (P : Params) : Obj := ⟨(.type "builtin_function_or_method"), none, (.fields [(.builtin "type.__prepare__"), (.type "type")].toArray), [].toArray⟩
noncomputable def o144 (P : Params) : Obj := ⟨(.type "dict"), none, (.dict [⟨PyData.keyHash P (Str.ofString "__module__"), (.str (Str.ofString "__module__") 2327), (.str (Str.ofString "cpy313.tabnanny") 2318)⟩, ⟨PyData.keyHash P (Str.ofString "__qualname__"), (.str (Str.ofString "__qualname__") 2329), (.str (Str.ofString "Whitespace") 2328)⟩, ⟨PyData.keyHash P (Str.ofString "__firstlineno__"), (.str (Str.ofString "__firstlineno__") 2331), (.int (107) 2330)⟩, ⟨PyData.keyHash P (Str.ofString "S"), (.str (Str.ofString "S") 2335), (.str (Str.ofString " ") 2333)⟩, ⟨PyData.keyHash P (Str.ofString "T"), (.str (Str.ofString "T") 2336), (.str (Str.ofString "\t") 2334)⟩, ⟨PyData.keyHash P (Str.ofString "__init__"), (.str (Str.ofString "__init__") 2351), (.ref 158)⟩, ⟨PyData.keyHash P (Str.ofString "longest_run_of_spaces"), (.str (Str.ofString "longest_run_of_spaces") 2358), (.ref 165)⟩, ⟨PyData.keyHash P (Str.ofString "indent_level"), (.str (Str.ofString "indent_level") 2370), (.ref 172)⟩, ⟨PyData.keyHash P (Str.ofString "equal"), (.str (Str.ofString "equal") 2378), (.ref 179)⟩, ⟨PyData.keyHash P (Str.ofString "not_equal_witness"), (.str (Str.ofString "not_equal_witness") 2386), (.ref 186)⟩, ⟨PyData.keyHash P (Str.ofString "less"), (.str (Str.ofString "less") 2394), (.ref 193)⟩, ⟨PyData.keyHash P (Str.ofString "not_less_witness"), (.str (Str.ofString "not_less_witness") 2402), (.ref 200)⟩, ⟨PyData.keyHash P (Str.ofString "__static_attributes__"), (.str (Str.ofString "__static_attributes__") 2408), (.ref 201)⟩].toArray 13), [].toArray⟩
noncomputable def o145 (P : Params) : Obj := ⟨(.type "tuple"), none, (.seq [].toArray 0), [].toArray⟩
noncomputable def o147 (P : Params) : Obj := ⟨(.type "code"), none, (.fields [(.str (Str.ofString "Whitespace") 2322), (.str (Str.ofString "Whitespace") 2323), (.str (Str.ofString "/claim/cut.py") 2324), (.int (107) 0), (.int (0) 0), (.int (0) 0), (.int (0) 0), (.int (0) 0), (.ref 145), (.bool false), (.int (181) 0), (.ref 146), .none, .none, .none, .none, (.int (2325) 0), (.int (107) 0), (.str (Str.ofString "/claim/cut.py") 2326)].toArray), [].toArray⟩
noncomputable def o148 (P : Params) : Obj := ⟨(.type "frame"), none, .plain, [(some (.ref 147)), (some (.ref 3)), (some (.ref 144)), none, (some (.str (Str.ofString "cpy313.tabnanny") 2318)), none, (some (.ref 0))].toArray⟩
noncomputable def o149 (P : Params) : Obj := ⟨(.type "str_ascii_iterator"), none, (.fields [.none, (.int (2) 0)].toArray), [].toArray⟩
noncomputable def o150 (P : Params) : Obj := ⟨(.type "tuple"), none, (.seq [].toArray 0), [].toArray⟩
noncomputable def o151 (P : Params) : Obj := ⟨(.type "StopIteration"), none, (.fields [(.ref 150), .none, .none, .none, (.bool false), .none].toArray), [].toArray⟩
noncomputable def o152 (P : Params) : Obj := ⟨(.type "tuple"), none, (.seq [].toArray 0), [].toArray⟩
noncomputable def o154 (P : Params) : Obj := ⟨(.type "tuple"), none, (.seq [(.str (Str.ofString "self") 2340), (.str (Str.ofString "ws") 2341), (.str (Str.ofString "S") 2342), (.str (Str.ofString "T") 2343), (.str (Str.ofString "count") 2344), (.str (Str.ofString "b") 2345), (.str (Str.ofString "n") 2346), (.str (Str.ofString "nt") 2347), (.str (Str.ofString "ch") 2348)].toArray 0), [].toArray⟩
noncomputable def o155 (P : Params) : Obj := ⟨(.type "tuple"), none, (.seq [].toArray 0), [].toArray⟩
noncomputable def o157 (P : Params) : Obj := ⟨(.type "code"), none, (.fields [(.str (Str.ofString "__init__") 2337), (.str (Str.ofString "Whitespace.__init__") 2338), (.str (Str.ofString "/claim/cut.py") 2339), (.int (110) 0), (.int (2) 0), (.int (0) 0), (.int (0) 0), (.int (3) 0), (.ref 152), (.bool true), (.int (181) 0), (.ref 153), .none, (.ref 154), (.ref 155), (.ref 156), (.int (2349) 0), (.int (110) 0), (.str (Str.ofString "/claim/cut.py") 2350)].toArray), [].toArray⟩
noncomputable def o158 (P : Params) : Obj := ⟨(.type "function"), none, (.func { name := (Str.ofString "__init__"), qualname := (Str.ofString "Whitespace.__init__"), params := f15m1_args, body := .stmts f15m1_body, scope := f15m1_scope, globals := 3, closure := [], defaults := .none, kwdefaults := .none, doc := .none, pyModule := (.str (Str.ofString "cpy313.tabnanny") 2318), annotations := none, code := (.ref 157), closureTuple := .none, builtins := 0 }), [].toArray⟩
noncomputable def o159 (P : Params) : Obj := ⟨(.type "tuple"), none, (.seq [].toArray 0), [].toArray⟩
noncomputable def o161 (P : Params) : Obj := ⟨(.type "tuple"), none, (.seq [(.str (Str.ofString "self") 2355)].toArray 0), [].toArray⟩
noncomputable def o162 (P : Params) : Obj := ⟨(.type "tuple"), none, (.seq [].toArray 0), [].toArray⟩
noncomputable def o164 (P : Params) : Obj := ⟨(.type "code"), none, (.fields [(.str (Str.ofString "longest_run_of_spaces") 2352), (.str (Str.ofString "Whitespace.longest_run_of_spaces") 2353), (.str (Str.ofString "/claim/cut.py") 2354), (.int (133) 0), (.int (1) 0), (.int (0) 0), (.int (0) 0), (.int (3) 0), (.ref 159), (.bool true), (.int (181) 0), (.ref 160), .none, (.ref 161), (.ref 162), (.ref 163), (.int (2356) 0), (.int (133) 0), (.str (Str.ofString "/claim/cut.py") 2357)].toArray), [].toArray⟩
noncomputable def o165 (P : Params) : Obj := ⟨(.type "function"), none, (.func { name := (Str.ofString "longest_run_of_spaces"), qualname := (Str.ofString "Whitespace.longest_run_of_spaces"), params := f15m2_args, body := .stmts f15m2_body, scope := f15m2_scope, globals := 3, closure := [], defaults := .none, kwdefaults := .none, doc := .none, pyModule := (.str (Str.ofString "cpy313.tabnanny") 2318), annotations := none, code := (.ref 164), closureTuple := .none, builtins := 0 }), [].toArray⟩
noncomputable def o166 (P : Params) : Obj := ⟨(.type "tuple"), none, (.seq [].toArray 0), [].toArray⟩
noncomputable def o168 (P : Params) : Obj := ⟨(.type "tuple"), none, (.seq [(.str (Str.ofString "self") 2362), (.str (Str.ofString "tabsize") 2363), (.str (Str.ofString "count") 2364), (.str (Str.ofString "trailing") 2365), (.str (Str.ofString "il") 2366), (.str (Str.ofString "i") 2367)].toArray 0), [].toArray⟩
noncomputable def o169 (P : Params) : Obj := ⟨(.type "tuple"), none, (.seq [].toArray 0), [].toArray⟩
noncomputable def o171 (P : Params) : Obj := ⟨(.type "code"), none, (.fields [(.str (Str.ofString "indent_level") 2359), (.str (Str.ofString "Whitespace.indent_level") 2360), (.str (Str.ofString "/claim/cut.py") 2361), (.int (136) 0), (.int (2) 0), (.int (0) 0), (.int (0) 0), (.int (3) 0), (.ref 166), (.bool true), (.int (181) 0), (.ref 167), .none, (.ref 168), (.ref 169), (.ref 170), (.int (2368) 0), (.int (136) 0), (.str (Str.ofString "/claim/cut.py") 2369)].toArray), [].toArray⟩
noncomputable def o172 (P : Params) : Obj := ⟨(.type "function"), none, (.func { name := (Str.ofString "indent_level"), qualname := (Str.ofString "Whitespace.indent_level"), params := f15m3_args, body := .stmts f15m3_body, scope := f15m3_scope, globals := 3, closure := [], defaults := .none, kwdefaults := .none, doc := .none, pyModule := (.str (Str.ofString "cpy313.tabnanny") 2318), annotations := none, code := (.ref 171), closureTuple := .none, builtins := 0 }), [].toArray⟩
noncomputable def o173 (P : Params) : Obj := ⟨(.type "tuple"), none, (.seq [].toArray 0), [].toArray⟩
noncomputable def o175 (P : Params) : Obj := ⟨(.type "tuple"), none, (.seq [(.str (Str.ofString "self") 2374), (.str (Str.ofString "other") 2375)].toArray 0), [].toArray⟩
noncomputable def o176 (P : Params) : Obj := ⟨(.type "tuple"), none, (.seq [].toArray 0), [].toArray⟩
noncomputable def o178 (P : Params) : Obj := ⟨(.type "code"), none, (.fields [(.str (Str.ofString "equal") 2371), (.str (Str.ofString "Whitespace.equal") 2372), (.str (Str.ofString "/claim/cut.py") 2373), (.int (143) 0), (.int (2) 0), (.int (0) 0), (.int (0) 0), (.int (3) 0), (.ref 173), (.bool true), (.int (181) 0), (.ref 174), .none, (.ref 175), (.ref 176), (.ref 177), (.int (2376) 0), (.int (143) 0), (.str (Str.ofString "/claim/cut.py") 2377)].toArray), [].toArray⟩
noncomputable def o179 (P : Params) : Obj := ⟨(.type "function"), none, (.func { name := (Str.ofString "equal"), qualname := (Str.ofString "Whitespace.equal"), params := f15m4_args, body := .stmts f15m4_body, scope := f15m4_scope, globals := 3, closure := [], defaults := .none, kwdefaults := .none, doc := .none, pyModule := (.str (Str.ofString "cpy313.tabnanny") 2318), annotations := none, code := (.ref 178), closureTuple := .none, builtins := 0 }), [].toArray⟩
noncomputable def o180 (P : Params) : Obj := ⟨(.type "tuple"), none, (.seq [].toArray 0), [].toArray⟩
noncomputable def o182 (P : Params) : Obj := ⟨(.type "tuple"), none, (.seq [(.str (Str.ofString "self") 2382), (.str (Str.ofString "other") 2383)].toArray 0), [].toArray⟩
noncomputable def o183 (P : Params) : Obj := ⟨(.type "tuple"), none, (.seq [].toArray 0), [].toArray⟩
noncomputable def o185 (P : Params) : Obj := ⟨(.type "code"), none, (.fields [(.str (Str.ofString "not_equal_witness") 2379), (.str (Str.ofString "Whitespace.not_equal_witness") 2380), (.str (Str.ofString "/claim/cut.py") 2381), (.int (146) 0), (.int (2) 0), (.int (0) 0), (.int (0) 0), (.int (3) 0), (.ref 180), (.bool true), (.int (181) 0), (.ref 181), .none, (.ref 182), (.ref 183), (.ref 184), (.int (2384) 0), (.int (146) 0), (.str (Str.ofString "/claim/cut.py") 2385)].toArray), [].toArray⟩
noncomputable def o186 (P : Params) : Obj := ⟨(.type "function"), none, (.func { name := (Str.ofString "not_equal_witness"), qualname := (Str.ofString "Whitespace.not_equal_witness"), params := f15m5_args, body := .stmts f15m5_body, scope := f15m5_scope, globals := 3, closure := [], defaults := .none, kwdefaults := .none, doc := .none, pyModule := (.str (Str.ofString "cpy313.tabnanny") 2318), annotations := none, code := (.ref 185), closureTuple := .none, builtins := 0 }), [].toArray⟩
noncomputable def o187 (P : Params) : Obj := ⟨(.type "tuple"), none, (.seq [].toArray 0), [].toArray⟩
noncomputable def o189 (P : Params) : Obj := ⟨(.type "tuple"), none, (.seq [(.str (Str.ofString "self") 2390), (.str (Str.ofString "other") 2391)].toArray 0), [].toArray⟩
noncomputable def o190 (P : Params) : Obj := ⟨(.type "tuple"), none, (.seq [].toArray 0), [].toArray⟩
noncomputable def o192 (P : Params) : Obj := ⟨(.type "code"), none, (.fields [(.str (Str.ofString "less") 2387), (.str (Str.ofString "Whitespace.less") 2388), (.str (Str.ofString "/claim/cut.py") 2389), (.int (149) 0), (.int (2) 0), (.int (0) 0), (.int (0) 0), (.int (3) 0), (.ref 187), (.bool true), (.int (181) 0), (.ref 188), .none, (.ref 189), (.ref 190), (.ref 191), (.int (2392) 0), (.int (149) 0), (.str (Str.ofString "/claim/cut.py") 2393)].toArray), [].toArray⟩
noncomputable def o193 (P : Params) : Obj := ⟨(.type "function"), none, (.func { name := (Str.ofString "less"), qualname := (Str.ofString "Whitespace.less"), params := f15m6_args, body := .stmts f15m6_body, scope := f15m6_scope, globals := 3, closure := [], defaults := .none, kwdefaults := .none, doc := .none, pyModule := (.str (Str.ofString "cpy313.tabnanny") 2318), annotations := none, code := (.ref 192), closureTuple := .none, builtins := 0 }), [].toArray⟩
noncomputable def o194 (P : Params) : Obj := ⟨(.type "tuple"), none, (.seq [].toArray 0), [].toArray⟩
noncomputable def o196 (P : Params) : Obj := ⟨(.type "tuple"), none, (.seq [(.str (Str.ofString "self") 2398), (.str (Str.ofString "other") 2399)].toArray 0), [].toArray⟩
noncomputable def o197 (P : Params) : Obj := ⟨(.type "tuple"), none, (.seq [].toArray 0), [].toArray⟩
noncomputable def o199 (P : Params) : Obj := ⟨(.type "code"), none, (.fields [(.str (Str.ofString "not_less_witness") 2395), (.str (Str.ofString "Whitespace.not_less_witness") 2396), (.str (Str.ofString "/claim/cut.py") 2397), (.int (152) 0), (.int (2) 0), (.int (0) 0), (.int (0) 0), (.int (3) 0), (.ref 194), (.bool true), (.int (181) 0), (.ref 195), .none, (.ref 196), (.ref 197), (.ref 198), (.int (2400) 0), (.int (152) 0), (.str (Str.ofString "/claim/cut.py") 2401)].toArray), [].toArray⟩
noncomputable def o200 (P : Params) : Obj := ⟨(.type "function"), none, (.func { name := (Str.ofString "not_less_witness"), qualname := (Str.ofString "Whitespace.not_less_witness"), params := f15m7_args, body := .stmts f15m7_body, scope := f15m7_scope, globals := 3, closure := [], defaults := .none, kwdefaults := .none, doc := .none, pyModule := (.str (Str.ofString "cpy313.tabnanny") 2318), annotations := none, code := (.ref 199), closureTuple := .none, builtins := 0 }), [].toArray⟩
noncomputable def o201 (P : Params) : Obj := ⟨(.type "tuple"), none, (.seq [(.str (Str.ofString "is_simple") 2403), (.str (Str.ofString "n") 2404), (.str (Str.ofString "norm") 2405), (.str (Str.ofString "nt") 2406), (.str (Str.ofString "raw") 2407)].toArray 0), [].toArray⟩
noncomputable def o202 (P : Params) : Obj := ⟨(.type "dict"), none, (.dict [⟨PyData.keyHash P (Str.ofString "__module__"), (.str (Str.ofString "__module__") 2327), (.str (Str.ofString "cpy313.tabnanny") 2318)⟩, ⟨PyData.keyHash P (Str.ofString "__firstlineno__"), (.str (Str.ofString "__firstlineno__") 2331), (.int (107) 2330)⟩, ⟨PyData.keyHash P (Str.ofString "S"), (.str (Str.ofString "S") 2335), (.str (Str.ofString " ") 2333)⟩, ⟨PyData.keyHash P (Str.ofString "T"), (.str (Str.ofString "T") 2336), (.str (Str.ofString "\t") 2334)⟩, ⟨PyData.keyHash P (Str.ofString "__init__"), (.str (Str.ofString "__init__") 2351), (.ref 158)⟩, ⟨PyData.keyHash P (Str.ofString "longest_run_of_spaces"), (.str (Str.ofString "longest_run_of_spaces") 2358), (.ref 165)⟩, ⟨PyData.keyHash P (Str.ofString "indent_level"), (.str (Str.ofString "indent_level") 2370), (.ref 172)⟩, ⟨PyData.keyHash P (Str.ofString "equal"), (.str (Str.ofString "equal") 2378), (.ref 179)⟩, ⟨PyData.keyHash P (Str.ofString "not_equal_witness"), (.str (Str.ofString "not_equal_witness") 2386), (.ref 186)⟩, ⟨PyData.keyHash P (Str.ofString "less"), (.str (Str.ofString "less") 2394), (.ref 193)⟩, ⟨PyData.keyHash P (Str.ofString "not_less_witness"), (.str (Str.ofString "not_less_witness") 2402), (.ref 200)⟩, ⟨PyData.keyHash P (Str.ofString "__static_attributes__"), (.str (Str.ofString "__static_attributes__") 2408), (.ref 201)⟩, ⟨PyData.keyHash P (Str.ofString "__dict__"), (.str (Str.ofString "__dict__") 2410), (.ref 204)⟩, ⟨PyData.keyHash P (Str.ofString "__weakref__"), (.str (Str.ofString "__weakref__") 2412), (.ref 205)⟩, ⟨PyData.keyHash P (Str.ofString "__doc__"), (.str (Str.ofString "__doc__") 2413), .none⟩].toArray 4), [].toArray⟩
noncomputable def o203 (P : Params) : Obj := ⟨(.type "type"), none, (.cls { name := (Str.ofString "Whitespace"), bases := [(.type "object")], mro := [(.ref 203), (.type "object")], ns := 202, qualname := (Str.ofString "Whitespace"), hasDict := true, slotNames := [], subclasses := [], abstract := false, collection := none, hasDel := false }), [none, none, (some (.str (Str.ofString "Whitespace") 2320)), (some (.str (Str.ofString "Whitespace") 2328)), (some (.builtin "object.__new__")), (some (.bool true))].toArray⟩
noncomputable def o204 (P : Params) : Obj := ⟨(.type "getset_descriptor"), none, (.fields [(.str (Str.ofString "__dict__") 2409), (.ref 203), (.builtin "function.__dict__"), (.builtin "function.__dict__#set")].toArray), [].toArray⟩
noncomputable def o205 (P : Params) : Obj := ⟨(.type "getset_descriptor"), none, (.fields [(.str (Str.ofString "__weakref__") 2411), (.ref 203), (.builtin "ExceptionGroup.__weakref__"), .none].toArray), [].toArray⟩
noncomputable def o206 (P : Params) : Obj := ⟨(.type "super"), none, (.fields [(.ref 203), (.ref 203), (.ref 203)].toArray), [].toArray⟩
noncomputable def o207 (P : Params) : Obj := ⟨(.type "builtin_function_or_method"), none, (.fields [(.builtin "object.__init_subclass__"), (.ref 203)].toArray), [].toArray⟩
noncomputable def o208 (P : Params) : Obj := ⟨(.type "tuple"), none, (.seq [].toArray 0), [].toArray⟩
noncomputable def o210 (P : Params) : Obj := ⟨(.type "tuple"), none, (.seq [(.str (Str.ofString "text") 2421), (.str (Str.ofString "stream") 2422)].toArray 0), [].toArray⟩
noncomputable def o211 (P : Params) : Obj := ⟨(.type "tuple"), none, (.seq [(.str (Str.ofString "signs") 2423)].toArray 0), [].toArray⟩
noncomputable def o213 (P : Params) : Obj := ⟨(.type "code"), none, (.fields [(.str (Str.ofString "_law_lexer") 2418), (.str (Str.ofString "_law_lexer") 2419), (.str (Str.ofString "/claim/cut.py") 2420), (.int (155) 0), (.int (1) 0), (.int (0) 0), (.int (0) 0), (.int (3) 0), (.ref 208), (.bool true), (.int (181) 0), (.ref 209), .none, (.ref 210), (.ref 211), (.ref 212), (.int (2424) 0), (.int (155) 0), (.str (Str.ofString "/claim/cut.py") 2425)].toArray), [].toArray⟩
noncomputable def o214 (P : Params) : Obj := ⟨(.type "function"), none, (.func { name := (Str.ofString "_law_lexer"), qualname := (Str.ofString "_law_lexer"), params := f17_args, body := .stmts f17_body, scope := f17_scope, globals := 3, closure := [], defaults := .none, kwdefaults := .none, doc := .none, pyModule := (.str (Str.ofString "law_uc0057_03") 2416), annotations := none, code := (.ref 213), closureTuple := .none, builtins := 0 }), [].toArray⟩
noncomputable def o215 (P : Params) : Obj := ⟨(.type "tuple"), none, (.seq [].toArray 0), [].toArray⟩
noncomputable def o218 (P : Params) : Obj := ⟨(.type "code"), none, (.fields [(.str (Str.ofString "_law_spelled") 2427), (.str (Str.ofString "_law_spelled") 2428), (.str (Str.ofString "/claim/cut.py") 2429), (.int (160) 0), (.int (2) 0), (.int (0) 0), (.int (0) 0), (.int (3) 0), (.ref 215), (.bool true), (.int (181) 0), (.ref 216), .none, .none, .none, (.ref 217), (.int (2430) 0), (.int (160) 0), (.str (Str.ofString "/claim/cut.py") 2431)].toArray), [].toArray⟩
noncomputable def o219 (P : Params) : Obj := ⟨(.type "function"), none, (.func { name := (Str.ofString "_law_spelled"), qualname := (Str.ofString "_law_spelled"), params := f18_args, body := .stmts f18_body, scope := f18_scope, globals := 3, closure := [], defaults := .none, kwdefaults := .none, doc := .none, pyModule := (.str (Str.ofString "law_uc0057_03") 2416), annotations := none, code := (.ref 218), closureTuple := .none, builtins := 0 }), [].toArray⟩
noncomputable def o220 (P : Params) : Obj := ⟨(.type "tuple"), none, (.seq [].toArray 0), [].toArray⟩
noncomputable def o223 (P : Params) : Obj := ⟨(.type "code"), none, (.fields [(.str (Str.ofString "_law_kept") 2433), (.str (Str.ofString "_law_kept") 2434), (.str (Str.ofString "/claim/cut.py") 2435), (.int (179) 0), (.int (1) 0), (.int (0) 0), (.int (0) 0), (.int (3) 0), (.ref 220), (.bool true), (.int (181) 0), (.ref 221), .none, .none, .none, (.ref 222), (.int (2436) 0), (.int (179) 0), (.str (Str.ofString "/claim/cut.py") 2437)].toArray), [].toArray⟩
noncomputable def o224 (P : Params) : Obj := ⟨(.type "function"), none, (.func { name := (Str.ofString "_law_kept"), qualname := (Str.ofString "_law_kept"), params := f19_args, body := .stmts f19_body, scope := f19_scope, globals := 3, closure := [], defaults := .none, kwdefaults := .none, doc := .none, pyModule := (.str (Str.ofString "law_uc0057_03") 2416), annotations := none, code := (.ref 223), closureTuple := .none, builtins := 0 }), [].toArray⟩
noncomputable def o225 (P : Params) : Obj := ⟨(.type "tuple"), none, (.seq [].toArray 0), [].toArray⟩
noncomputable def o227 (P : Params) : Obj := ⟨(.type "tuple"), none, (.seq [(.str (Str.ofString "column") 2442), (.str (Str.ofString "size") 2443), (.str (Str.ofString "drawn") 2444), (.str (Str.ofString "tabs") 2445), (.str (Str.ofString "blanks") 2446)].toArray 0), [].toArray⟩
noncomputable def o228 (P : Params) : Obj := ⟨(.type "tuple"), none, (.seq [].toArray 0), [].toArray⟩
noncomputable def o230 (P : Params) : Obj := ⟨(.type "code"), none, (.fields [(.str (Str.ofString "_law_lead") 2439), (.str (Str.ofString "_law_lead") 2440), (.str (Str.ofString "/claim/cut.py") 2441), (.int (181) 0), (.int (3) 0), (.int (0) 0), (.int (0) 0), (.int (3) 0), (.ref 225), (.bool true), (.int (181) 0), (.ref 226), .none, (.ref 227), (.ref 228), (.ref 229), (.int (2447) 0), (.int (181) 0), (.str (Str.ofString "/claim/cut.py") 2448)].toArray), [].toArray⟩
noncomputable def o231 (P : Params) : Obj := ⟨(.type "function"), none, (.func { name := (Str.ofString "_law_lead"), qualname := (Str.ofString "_law_lead"), params := f20_args, body := .stmts f20_body, scope := f20_scope, globals := 3, closure := [], defaults := .none, kwdefaults := .none, doc := .none, pyModule := (.str (Str.ofString "law_uc0057_03") 2416), annotations := none, code := (.ref 230), closureTuple := .none, builtins := 0 }), [].toArray⟩
noncomputable def o232 (P : Params) : Obj := ⟨(.type "tuple"), none, (.seq [].toArray 0), [].toArray⟩
noncomputable def o235 (P : Params) : Obj := ⟨(.type "code"), none, (.fields [(.str (Str.ofString "_law_far") 2450), (.str (Str.ofString "_law_far") 2451), (.str (Str.ofString "/claim/cut.py") 2452), (.int (185) 0), (.int (2) 0), (.int (0) 0), (.int (0) 0), (.int (3) 0), (.ref 232), (.bool true), (.int (181) 0), (.ref 233), .none, .none, .none, (.ref 234), (.int (2453) 0), (.int (185) 0), (.str (Str.ofString "/claim/cut.py") 2454)].toArray), [].toArray⟩
noncomputable def o236 (P : Params) : Obj := ⟨(.type "function"), none, (.func { name := (Str.ofString "_law_far"), qualname := (Str.ofString "_law_far"), params := f21_args, body := .stmts f21_body, scope := f21_scope, globals := 3, closure := [], defaults := .none, kwdefaults := .none, doc := .none, pyModule := (.str (Str.ofString "law_uc0057_03") 2416), annotations := none, code := (.ref 235), closureTuple := .none, builtins := 0 }), [].toArray⟩
noncomputable def o237 (P : Params) : Obj := ⟨(.type "tuple"), none, (.seq [].toArray 0), [].toArray⟩
noncomputable def o240 (P : Params) : Obj := ⟨(.type "code"), none, (.fields [(.str (Str.ofString "_law_dearest") 2456), (.str (Str.ofString "_law_dearest") 2457), (.str (Str.ofString "/claim/cut.py") 2458), (.int (194) 0), (.int (1) 0), (.int (0) 0), (.int (0) 0), (.int (3) 0), (.ref 237), (.bool true), (.int (181) 0), (.ref 238), .none, .none, .none, (.ref 239), (.int (2459) 0), (.int (194) 0), (.str (Str.ofString "/claim/cut.py") 2460)].toArray), [].toArray⟩
noncomputable def o241 (P : Params) : Obj := ⟨(.type "function"), none, (.func { name := (Str.ofString "_law_dearest"), qualname := (Str.ofString "_law_dearest"), params := f22_args, body := .stmts f22_body, scope := f22_scope, globals := 3, closure := [], defaults := .none, kwdefaults := .none, doc := .none, pyModule := (.str (Str.ofString "law_uc0057_03") 2416), annotations := none, code := (.ref 240), closureTuple := .none, builtins := 0 }), [].toArray⟩
noncomputable def o242 (P : Params) : Obj := ⟨(.type "tuple"), none, (.seq [].toArray 0), [].toArray⟩
noncomputable def o245 (P : Params) : Obj := ⟨(.type "code"), none, (.fields [(.str (Str.ofString "law") 2462), (.str (Str.ofString "law") 2463), (.str (Str.ofString "/claim/cut.py") 2464), (.int (206) 0), (.int (1) 0), (.int (0) 0), (.int (0) 0), (.int (3) 0), (.ref 242), (.bool true), (.int (181) 0), (.ref 243), .none, .none, .none, (.ref 244), (.int (2465) 0), (.int (206) 0), (.str (Str.ofString "/claim/cut.py") 2466)].toArray), [].toArray⟩
noncomputable def o246 (P : Params) : Obj := ⟨(.type "function"), none, (.func { name := (Str.ofString "law"), qualname := (Str.ofString "law"), params := f23_args, body := .stmts f23_body, scope := f23_scope, globals := 3, closure := [], defaults := .none, kwdefaults := .none, doc := .none, pyModule := (.str (Str.ofString "law_uc0057_03") 2416), annotations := none, code := (.ref 245), closureTuple := .none, builtins := 0 }), [].toArray⟩
noncomputable def o2 (_ : Params) : Obj := ⟨.none, none, (.dict [].toArray 0), [].toArray⟩
noncomputable def K : Params → Frag := fun P => (nat_lit 2, o2 P) ::
  (nat_lit 3, o3 P) ::
  (nat_lit 4, o4 P) ::
  (nat_lit 5, o5 P) ::
  (nat_lit 6, o6 P) ::
  (nat_lit 7, o7 P) ::
  (nat_lit 9, o9 P) ::
  (nat_lit 10, o10 P) ::
  (nat_lit 11, o11 P) ::
  (nat_lit 13, o13 P) ::
  (nat_lit 14, o14 P) ::
  (nat_lit 15, o15 P) ::
  (nat_lit 17, o17 P) ::
  (nat_lit 18, o18 P) ::
  (nat_lit 20, o20 P) ::
  (nat_lit 21, o21 P) ::
  (nat_lit 22, o22 P) ::
  (nat_lit 24, o24 P) ::
  (nat_lit 25, o25 P) ::
  (nat_lit 27, o27 P) ::
  (nat_lit 28, o28 P) ::
  (nat_lit 29, o29 P) ::
  (nat_lit 31, o31 P) ::
  (nat_lit 32, o32 P) ::
  (nat_lit 34, o34 P) ::
  (nat_lit 35, o35 P) ::
  (nat_lit 36, o36 P) ::
  (nat_lit 37, o37 P) ::
  (nat_lit 38, o38 P) ::
  (nat_lit 39, o39 P) ::
  (nat_lit 41, o41 P) ::
  (nat_lit 42, o42 P) ::
  (nat_lit 43, o43 P) ::
  (nat_lit 45, o45 P) ::
  (nat_lit 46, o46 P) ::
  (nat_lit 48, o48 P) ::
  (nat_lit 49, o49 P) ::
  (nat_lit 50, o50 P) ::
  (nat_lit 52, o52 P) ::
  (nat_lit 53, o53 P) ::
  (nat_lit 55, o55 P) ::
  (nat_lit 56, o56 P) ::
  (nat_lit 57, o57 P) ::
  (nat_lit 59, o59 P) ::
  (nat_lit 60, o60 P) ::
  (nat_lit 62, o62 P) ::
  (nat_lit 63, o63 P) ::
  (nat_lit 64, o64 P) ::
  (nat_lit 66, o66 P) ::
  (nat_lit 67, o67 P) ::
  (nat_lit 69, o69 P) ::
  (nat_lit 70, o70 P) ::
  (nat_lit 71, o71 P) ::
  (nat_lit 72, o72 P) ::
  (nat_lit 73, o73 P) ::
  (nat_lit 74, o74 P) ::
  (nat_lit 75, o75 P) ::
  (nat_lit 76, o76 P) ::
  (nat_lit 77, o77 P) ::
  (nat_lit 78, o78 P) ::
  (nat_lit 79, o79 P) ::
  (nat_lit 80, o80 P) ::
  (nat_lit 81, o81 P) ::
  (nat_lit 82, o82 P) ::
  (nat_lit 83, o83 P) ::
  (nat_lit 84, o84 P) ::
  (nat_lit 85, o85 P) ::
  (nat_lit 86, o86 P) ::
  (nat_lit 87, o87 P) ::
  (nat_lit 88, o88 P) ::
  (nat_lit 89, o89 P) ::
  (nat_lit 91, o91 P) ::
  (nat_lit 92, o92 P) ::
  (nat_lit 94, o94 P) ::
  (nat_lit 95, o95 P) ::
  (nat_lit 96, o96 P) ::
  (nat_lit 135, o135 P) ::
  (nat_lit 137, o137 P) ::
  (nat_lit 138, o138 P) ::
  (nat_lit 140, o140 P) ::
  (nat_lit 141, o141 P) ::
  (nat_lit 142, o142 P) ::
  (nat_lit 143, o143 P) ::
  (nat_lit 144, o144 P) ::
  (nat_lit 145, o145 P) ::
  (nat_lit 147, o147 P) ::
  (nat_lit 148, o148 P) ::
  (nat_lit 149, o149 P) ::
  (nat_lit 150, o150 P) ::
  (nat_lit 151, o151 P) ::
  (nat_lit 152, o152 P) ::
  (nat_lit 154, o154 P) ::
  (nat_lit 155, o155 P) ::
  (nat_lit 157, o157 P) ::
  (nat_lit 158, o158 P) ::
  (nat_lit 159, o159 P) ::
  (nat_lit 161, o161 P) ::
  (nat_lit 162, o162 P) ::
  (nat_lit 164, o164 P) ::
  (nat_lit 165, o165 P) ::
  (nat_lit 166, o166 P) ::
  (nat_lit 168, o168 P) ::
  (nat_lit 169, o169 P) ::
  (nat_lit 171, o171 P) ::
  (nat_lit 172, o172 P) ::
  (nat_lit 173, o173 P) ::
  (nat_lit 175, o175 P) ::
  (nat_lit 176, o176 P) ::
  (nat_lit 178, o178 P) ::
  (nat_lit 179, o179 P) ::
  (nat_lit 180, o180 P) ::
  (nat_lit 182, o182 P) ::
  (nat_lit 183, o183 P) ::
  (nat_lit 185, o185 P) ::
  (nat_lit 186, o186 P) ::
  (nat_lit 187, o187 P) ::
  (nat_lit 189, o189 P) ::
  (nat_lit 190, o190 P) ::
  (nat_lit 192, o192 P) ::
  (nat_lit 193, o193 P) ::
  (nat_lit 194, o194 P) ::
  (nat_lit 196, o196 P) ::
  (nat_lit 197, o197 P) ::
  (nat_lit 199, o199 P) ::
  (nat_lit 200, o200 P) ::
  (nat_lit 201, o201 P) ::
  (nat_lit 202, o202 P) ::
  (nat_lit 203, o203 P) ::
  (nat_lit 204, o204 P) ::
  (nat_lit 205, o205 P) ::
  (nat_lit 206, o206 P) ::
  (nat_lit 207, o207 P) ::
  (nat_lit 208, o208 P) ::
  (nat_lit 210, o210 P) ::
  (nat_lit 211, o211 P) ::
  (nat_lit 213, o213 P) ::
  (nat_lit 214, o214 P) ::
  (nat_lit 215, o215 P) ::
  (nat_lit 218, o218 P) ::
  (nat_lit 219, o219 P) ::
  (nat_lit 220, o220 P) ::
  (nat_lit 223, o223 P) ::
  (nat_lit 224, o224 P) ::
  (nat_lit 225, o225 P) ::
  (nat_lit 227, o227 P) ::
  (nat_lit 228, o228 P) ::
  (nat_lit 230, o230 P) ::
  (nat_lit 231, o231 P) ::
  (nat_lit 232, o232 P) ::
  (nat_lit 235, o235 P) ::
  (nat_lit 236, o236 P) ::
  (nat_lit 237, o237 P) ::
  (nat_lit 240, o240 P) ::
  (nat_lit 241, o241 P) ::
  (nat_lit 242, o242 P) ::
  (nat_lit 245, o245 P) ::
  (nat_lit 246, o246 P) :: []
noncomputable def Kas : List Addr := [2, 3, 4, 5, 6, 7, 9, 10, 11, 13, 14, 15, 17, 18, 20, 21, 22, 24, 25, 27, 28, 29, 31, 32, 34, 35, 36, 37, 38, 39, 41, 42, 43, 45, 46, 48, 49, 50, 52, 53, 55, 56, 57, 59, 60, 62, 63, 64, 66, 67, 69, 70, 71, 72, 73, 74, 75, 76, 77, 78, 79, 80, 81, 82, 83, 84, 85, 86, 87, 88, 89, 91, 92, 94, 95, 96, 135, 137, 138, 140, 141, 142, 143, 144, 145, 147, 148, 149, 150, 151, 152, 154, 155, 157, 158, 159, 161, 162, 164, 165, 166, 168, 169, 171, 172, 173, 175, 176, 178, 179, 180, 182, 183, 185, 186, 187, 189, 190, 192, 193, 194, 196, 197, 199, 200, 201, 202, 203, 204, 205, 206, 207, 208, 210, 211, 213, 214, 215, 218, 219, 220, 223, 224, 225, 227, 228, 230, 231, 232, 235, 236, 237, 240, 241, 242, 245, 246]
end Uc
section
namespace Uc
theorem ex1 {α0 : Type} {P : α0 → Prop} {G : Prop} (h : ∃ a0, P a0) (f : ∀ a0, P a0 → G) : G := h.elim f
theorem ex2 {α0 α1 : Type} {P : α0 → α1 → Prop} {G : Prop} (h : ∃ a0 a1, P a0 a1) (f : ∀ a0 a1, P a0 a1 → G) : G := h.elim fun a0 h => ex1 h (f a0)
theorem ex3 {α0 α1 α2 : Type} {P : α0 → α1 → α2 → Prop} {G : Prop} (h : ∃ a0 a1 a2, P a0 a1 a2) (f : ∀ a0 a1 a2, P a0 a1 a2 → G) : G := h.elim fun a0 h => ex2 h (f a0)
theorem ex4 {α0 α1 α2 α3 : Type} {P : α0 → α1 → α2 → α3 → Prop} {G : Prop} (h : ∃ a0 a1 a2 a3, P a0 a1 a2 a3) (f : ∀ a0 a1 a2 a3, P a0 a1 a2 a3 → G) : G := h.elim fun a0 h => ex3 h (f a0)
theorem ex5 {α0 α1 α2 α3 α4 : Type} {P : α0 → α1 → α2 → α3 → α4 → Prop} {G : Prop} (h : ∃ a0 a1 a2 a3 a4, P a0 a1 a2 a3 a4) (f : ∀ a0 a1 a2 a3 a4, P a0 a1 a2 a3 a4 → G) : G := h.elim fun a0 h => ex4 h (f a0)
theorem ex6 {α0 α1 α2 α3 α4 α5 : Type} {P : α0 → α1 → α2 → α3 → α4 → α5 → Prop} {G : Prop} (h : ∃ a0 a1 a2 a3 a4 a5, P a0 a1 a2 a3 a4 a5) (f : ∀ a0 a1 a2 a3 a4 a5, P a0 a1 a2 a3 a4 a5 → G) : G := h.elim fun a0 h => ex5 h (f a0)
theorem ex7 {α0 α1 α2 α3 α4 α5 α6 : Type} {P : α0 → α1 → α2 → α3 → α4 → α5 → α6 → Prop} {G : Prop} (h : ∃ a0 a1 a2 a3 a4 a5 a6, P a0 a1 a2 a3 a4 a5 a6) (f : ∀ a0 a1 a2 a3 a4 a5 a6, P a0 a1 a2 a3 a4 a5 a6 → G) : G := h.elim fun a0 h => ex6 h (f a0)
theorem ex8 {α0 α1 α2 α3 α4 α5 α6 α7 : Type} {P : α0 → α1 → α2 → α3 → α4 → α5 → α6 → α7 → Prop} {G : Prop} (h : ∃ a0 a1 a2 a3 a4 a5 a6 a7, P a0 a1 a2 a3 a4 a5 a6 a7) (f : ∀ a0 a1 a2 a3 a4 a5 a6 a7, P a0 a1 a2 a3 a4 a5 a6 a7 → G) : G := h.elim fun a0 h => ex7 h (f a0)
theorem ex9 {α0 α1 α2 α3 α4 α5 α6 α7 α8 : Type} {P : α0 → α1 → α2 → α3 → α4 → α5 → α6 → α7 → α8 → Prop} {G : Prop} (h : ∃ a0 a1 a2 a3 a4 a5 a6 a7 a8, P a0 a1 a2 a3 a4 a5 a6 a7 a8) (f : ∀ a0 a1 a2 a3 a4 a5 a6 a7 a8, P a0 a1 a2 a3 a4 a5 a6 a7 a8 → G) : G := h.elim fun a0 h => ex8 h (f a0)
theorem xe2 {α0 α1 : Type} {P : α0 → α1 → Prop} {G : Prop} (f : ∀ a0 a1, P a0 a1 → G) (h : ∃ a0 a1, P a0 a1) : G := ex2 h f
theorem xe4 {α0 α1 α2 α3 : Type} {P : α0 → α1 → α2 → α3 → Prop} {G : Prop} (f : ∀ a0 a1 a2 a3, P a0 a1 a2 a3 → G) (h : ∃ a0 a1 a2 a3, P a0 a1 a2 a3) : G := ex4 h f
theorem ei4 {α0 α1 α2 α3 : Type} {P : α0 → α1 → α2 → α3 → Prop} (a0 : α0) ( a1 : α1) ( a2 : α2) ( a3 : α3) (h : P a0 a1 a2 a3) : ∃ a0 a1 a2 a3, P a0 a1 a2 a3 := ⟨a0, a1, a2, a3, h⟩
theorem ei5 {α0 α1 α2 α3 α4 : Type} {P : α0 → α1 → α2 → α3 → α4 → Prop} (a0 : α0) ( a1 : α1) ( a2 : α2) ( a3 : α3) ( a4 : α4) (h : P a0 a1 a2 a3 a4) : ∃ a0 a1 a2 a3 a4, P a0 a1 a2 a3 a4 := ⟨a0, a1, a2, a3, a4, h⟩
theorem ei6 {α0 α1 α2 α3 α4 α5 : Type} {P : α0 → α1 → α2 → α3 → α4 → α5 → Prop} (a0 : α0) ( a1 : α1) ( a2 : α2) ( a3 : α3) ( a4 : α4) ( a5 : α5) (h : P a0 a1 a2 a3 a4 a5) : ∃ a0 a1 a2 a3 a4 a5, P a0 a1 a2 a3 a4 a5 := ⟨a0, a1, a2, a3, a4, a5, h⟩
theorem ei7 {α0 α1 α2 α3 α4 α5 α6 : Type} {P : α0 → α1 → α2 → α3 → α4 → α5 → α6 → Prop} (a0 : α0) ( a1 : α1) ( a2 : α2) ( a3 : α3) ( a4 : α4) ( a5 : α5) ( a6 : α6) (h : P a0 a1 a2 a3 a4 a5 a6) : ∃ a0 a1 a2 a3 a4 a5 a6, P a0 a1 a2 a3 a4 a5 a6 := ⟨a0, a1, a2, a3, a4, a5, a6, h⟩
theorem ei8 {α0 α1 α2 α3 α4 α5 α6 α7 : Type} {P : α0 → α1 → α2 → α3 → α4 → α5 → α6 → α7 → Prop} (a0 : α0) ( a1 : α1) ( a2 : α2) ( a3 : α3) ( a4 : α4) ( a5 : α5) ( a6 : α6) ( a7 : α7) (h : P a0 a1 a2 a3 a4 a5 a6 a7) : ∃ a0 a1 a2 a3 a4 a5 a6 a7, P a0 a1 a2 a3 a4 a5 a6 a7 := ⟨a0, a1, a2, a3, a4, a5, a6, a7, h⟩
theorem ei11 {α0 α1 α2 α3 α4 α5 α6 α7 α8 α9 α10 : Type} {P : α0 → α1 → α2 → α3 → α4 → α5 → α6 → α7 → α8 → α9 → α10 → Prop} (a0 : α0) ( a1 : α1) ( a2 : α2) ( a3 : α3) ( a4 : α4) ( a5 : α5) ( a6 : α6) ( a7 : α7) ( a8 : α8) ( a9 : α9) ( a10 : α10) (h : P a0 a1 a2 a3 a4 a5 a6 a7 a8 a9 a10) : ∃ a0 a1 a2 a3 a4 a5 a6 a7 a8 a9 a10, P a0 a1 a2 a3 a4 a5 a6 a7 a8 a9 a10 := ⟨a0, a1, a2, a3, a4, a5, a6, a7, a8, a9, a10, h⟩
theorem ei13 {α0 α1 α2 α3 α4 α5 α6 α7 α8 α9 α10 α11 α12 : Type} {P : α0 → α1 → α2 → α3 → α4 → α5 → α6 → α7 → α8 → α9 → α10 → α11 → α12 → Prop} (a0 : α0) ( a1 : α1) ( a2 : α2) ( a3 : α3) ( a4 : α4) ( a5 : α5) ( a6 : α6) ( a7 : α7) ( a8 : α8) ( a9 : α9) ( a10 : α10) ( a11 : α11) ( a12 : α12) (h : P a0 a1 a2 a3 a4 a5 a6 a7 a8 a9 a10 a11 a12) : ∃ a0 a1 a2 a3 a4 a5 a6 a7 a8 a9 a10 a11 a12, P a0 a1 a2 a3 a4 a5 a6 a7 a8 a9 a10 a11 a12 := ⟨a0, a1, a2, a3, a4, a5, a6, a7, a8, a9, a10, a11, a12, h⟩
theorem allC {α : Type} {P : α → Prop} {a : α} {l : List α} (h : P a) (t : ∀ p ∈ l, P p) : ∀ p ∈ a :: l, P p := fun p hp => (List.mem_cons.mp hp).elim (fun e => e ▸ h) (t p)
theorem lt5 {P : Nat → Prop} (h0 : P 0) (h1 : P 1) (h2 : P 2) (h3 : P 3) (h4 : P 4) {k : Nat} (hk : k < 5) : P k := allC h0 (allC h1 (allC h2 (allC h3 (allC h4 (fun _ h => absurd h List.not_mem_nil))))) k ((by decide : ∀ k < 5, k ∈ [0, 1, 2, 3, 4]) k hk)
theorem sub_s1 {n j : Nat} (h : j < n) : n - (j + 1) + 1 = n - j := Nat.sub_add_cancel (Nat.sub_pos_of_lt h)
theorem sub_s2 (n j : Nat) : n - 1 - j = n - (j + 1) := Nat.sub_right_comm n 1 j
theorem sub_s3 {n j : Nat} (h : j < n) : n - (j + 1) < n := Nat.sub_lt (Nat.lt_of_le_of_lt (Nat.zero_le j) h) (Nat.succ_pos j)
theorem sub_s4 {n k p : Nat} (h : n + 1 ≤ k + 1) (hp : 1 ≤ p) : n + 1 - p ≤ k := Nat.le_of_lt_succ (Nat.lt_of_lt_of_le (Nat.sub_lt (Nat.succ_pos n) hp) h)
theorem sub_s5 {n p y b : Nat} (h : n + 1 + y ≤ b) (hp : 1 ≤ p) : n + 1 - p + (y + 1) ≤ b := by
  rw [← Nat.add_assoc, Nat.add_right_comm]
  exact Nat.le_trans (Nat.add_le_add_right (Nat.succ_le_of_lt (Nat.sub_lt (Nat.succ_pos n) hp)) y) h
theorem an2 {p0 p1 G : Prop} (f : p0 → p1 → G) (h : p0 ∧ p1) : G := f h.1 h.2
theorem ah2 {p0 p1 G : Prop} (h : p0 ∧ p1) (f : p0 → p1 → G) : G := an2 f h
theorem an3 {p0 p1 p2 G : Prop} (f : p0 → p1 → p2 → G) (h : p0 ∧ p1 ∧ p2) : G := an2 (f h.1) h.2
theorem ah3 {p0 p1 p2 G : Prop} (h : p0 ∧ p1 ∧ p2) (f : p0 → p1 → p2 → G) : G := an3 f h
theorem an4 {p0 p1 p2 p3 G : Prop} (f : p0 → p1 → p2 → p3 → G) (h : p0 ∧ p1 ∧ p2 ∧ p3) : G := an3 (f h.1) h.2
theorem ah4 {p0 p1 p2 p3 G : Prop} (h : p0 ∧ p1 ∧ p2 ∧ p3) (f : p0 → p1 → p2 → p3 → G) : G := an4 f h
theorem an5 {p0 p1 p2 p3 p4 G : Prop} (f : p0 → p1 → p2 → p3 → p4 → G) (h : p0 ∧ p1 ∧ p2 ∧ p3 ∧ p4) : G := an4 (f h.1) h.2
theorem an6 {p0 p1 p2 p3 p4 p5 G : Prop} (f : p0 → p1 → p2 → p3 → p4 → p5 → G) (h : p0 ∧ p1 ∧ p2 ∧ p3 ∧ p4 ∧ p5) : G := an5 (f h.1) h.2
theorem ah6 {p0 p1 p2 p3 p4 p5 G : Prop} (h : p0 ∧ p1 ∧ p2 ∧ p3 ∧ p4 ∧ p5) (f : p0 → p1 → p2 → p3 → p4 → p5 → G) : G := an6 f h
theorem an7 {p0 p1 p2 p3 p4 p5 p6 G : Prop} (f : p0 → p1 → p2 → p3 → p4 → p5 → p6 → G) (h : p0 ∧ p1 ∧ p2 ∧ p3 ∧ p4 ∧ p5 ∧ p6) : G := an6 (f h.1) h.2
theorem an8 {p0 p1 p2 p3 p4 p5 p6 p7 G : Prop} (f : p0 → p1 → p2 → p3 → p4 → p5 → p6 → p7 → G) (h : p0 ∧ p1 ∧ p2 ∧ p3 ∧ p4 ∧ p5 ∧ p6 ∧ p7) : G := an7 (f h.1) h.2
theorem ah8 {p0 p1 p2 p3 p4 p5 p6 p7 G : Prop} (h : p0 ∧ p1 ∧ p2 ∧ p3 ∧ p4 ∧ p5 ∧ p6 ∧ p7) (f : p0 → p1 → p2 → p3 → p4 → p5 → p6 → p7 → G) : G := an8 f h
theorem an9 {p0 p1 p2 p3 p4 p5 p6 p7 p8 G : Prop} (f : p0 → p1 → p2 → p3 → p4 → p5 → p6 → p7 → p8 → G) (h : p0 ∧ p1 ∧ p2 ∧ p3 ∧ p4 ∧ p5 ∧ p6 ∧ p7 ∧ p8) : G := an8 (f h.1) h.2
theorem an10 {p0 p1 p2 p3 p4 p5 p6 p7 p8 p9 G : Prop} (f : p0 → p1 → p2 → p3 → p4 → p5 → p6 → p7 → p8 → p9 → G) (h : p0 ∧ p1 ∧ p2 ∧ p3 ∧ p4 ∧ p5 ∧ p6 ∧ p7 ∧ p8 ∧ p9) : G := an9 (f h.1) h.2
theorem an11 {p0 p1 p2 p3 p4 p5 p6 p7 p8 p9 p10 G : Prop} (f : p0 → p1 → p2 → p3 → p4 → p5 → p6 → p7 → p8 → p9 → p10 → G) (h : p0 ∧ p1 ∧ p2 ∧ p3 ∧ p4 ∧ p5 ∧ p6 ∧ p7 ∧ p8 ∧ p9 ∧ p10) : G := an10 (f h.1) h.2
theorem an12 {p0 p1 p2 p3 p4 p5 p6 p7 p8 p9 p10 p11 G : Prop} (f : p0 → p1 → p2 → p3 → p4 → p5 → p6 → p7 → p8 → p9 → p10 → p11 → G) (h : p0 ∧ p1 ∧ p2 ∧ p3 ∧ p4 ∧ p5 ∧ p6 ∧ p7 ∧ p8 ∧ p9 ∧ p10 ∧ p11) : G := an11 (f h.1) h.2
theorem an13 {p0 p1 p2 p3 p4 p5 p6 p7 p8 p9 p10 p11 p12 G : Prop} (f : p0 → p1 → p2 → p3 → p4 → p5 → p6 → p7 → p8 → p9 → p10 → p11 → p12 → G) (h : p0 ∧ p1 ∧ p2 ∧ p3 ∧ p4 ∧ p5 ∧ p6 ∧ p7 ∧ p8 ∧ p9 ∧ p10 ∧ p11 ∧ p12) : G := an12 (f h.1) h.2
theorem ledgR {α : Type} {l : List α} : ∀ p ∈ l, p ∈ l := fun _ h => h
theorem ledgD {α : Type} {a : α} {l l' : List α} (h : ∀ p ∈ l, p ∈ l') : ∀ p ∈ l, p ∈ a :: l' := fun p m => .tail _ (h p m)
theorem ledgK {α : Type} {a : α} {l l' : List α} (h : ∀ p ∈ l, p ∈ l') : ∀ p ∈ a :: l, p ∈ a :: l' := fun _ m => (List.mem_cons.mp m).elim (fun e => e ▸ .head _) fun m => .tail _ (h _ m)
theorem slF (x : Str) (k : Nat) : Txt.slice x (some (k : Int)) none = ⟨(x.cps.toList.drop k).toArray⟩ := by
  by_cases h : k ≤ x.length
  · rw [slice_from_eq (b := (x.length : Int)) (by omega) (by omega) rfl]
    have e : x.cps.toList.length = x.length := rfl
    rw [Int.toNat_natCast k, List.take_of_length_le (by rw [List.length_drop, Int.toNat_sub]; exact Nat.le_refl _)]
  · rw [slice_beyond (by omega)]
    have e : x.cps.toList.length = x.length := rfl
    rw [List.drop_of_length_le (Nat.le_of_lt (Nat.lt_of_not_le h))]
    rfl
theorem slN (x : Str) : Txt.slice x none none = x := by
  unfold Txt.slice
  split
  · rfl
  · rename_i h
    refine absurd ?_ h
    simp [Builtin.Str.strSliceIndices, sliceRange]
    split <;> omega
theorem slT (x : Str) (k : Nat) : Txt.slice x none (some (k : Int)) = ⟨(x.cps.toList.take k).toArray⟩ := by
  have e : x.cps.toList.length = x.length := rfl
  by_cases h : k ≤ x.length
  · have := beq_iff_eq.mp (slice_closes_to (x := x) (j := (k : Int)) (by omega))
    rw [this]; simp
  · have : Txt.slice x none (some (k : Int)) = Txt.slice x none none := by
      unfold Txt.slice Builtin.Str.strSliceIndices
      have h0 : ¬ ((k : Int) < 0) := by omega
      have h1 : min (k : Int) (x.length : Int) = x.length := by omega
      have h2 : max (0 : Int) (x.length : Int) = x.length := by omega
      simp only [h0, if_false, h1, h2, show (1 : Int) > 0 by decide, if_true]
    rw [this, slN, List.take_of_length_le (by omega)]
theorem slTn (x : Str) (k : Nat) (h0 : 0 < k) (h : k ≤ x.length) : Txt.slice x none (some (-(k : Int))) = ⟨(x.cps.toList.take (x.length - k)).toArray⟩ := by
  have e : x.cps.toList.length = x.length := rfl
  have : Txt.slice x none (some (-(k : Int))) = Txt.slice x none (some ((x.length - k : Nat) : Int)) := by
    unfold Txt.slice Builtin.Str.strSliceIndices
    have h0 : (-(k : Int) < 0) := by omega
    have h1 : ¬ (((x.length - k : Nat) : Int) < 0) := by omega
    simp only [h0, h1, if_true, if_false, show (1 : Int) > 0 by decide]
    rw [show (-(k : Int) + (x.length : Int)) = ((x.length - k : Nat) : Int) by omega]
  rw [this, slT]
theorem str_len (l : List Nat) : (Str.length ⟨l.toArray⟩) = l.length := by show l.toArray.size = _; simp
theorem item_nat (x : Str) (k : Nat) (h : k < x.length) : Txt.item x (k : Int) = ⟨#[x.cps.toList.getD k 0]⟩ := by
  rw [PySem.W.item_meets ⟨by omega, by omega⟩]
  have : k < x.cps.size := h
  simp [Array.getD, this]
theorem item_neg (x : Str) (k : Nat) (h0 : 0 < k) (h : k ≤ x.length) : Txt.item x (-(k : Int)) = ⟨#[x.cps.toList.getD (x.length - k) 0]⟩ := by
  have e : Txt.item x (-(k : Int)) = Txt.item x ((x.length - k : Nat) : Int) := by
    have e1 : seqIndex? (-(k : Int)) x.length = seqIndex? ((x.length - k : Nat) : Int) x.length := by
      have q1 : (if -(k : Int) < 0 then -(k : Int) + (x.length : Int) else -(k : Int)) = ((x.length - k : Nat) : Int) := by rw [if_pos (by omega)]; omega
      have q2 : (if ((x.length - k : Nat) : Int) < 0 then ((x.length - k : Nat) : Int) + (x.length : Int) else ((x.length - k : Nat) : Int)) = ((x.length - k : Nat) : Int) := if_neg (by omega)
      unfold seqIndex?
      simp only [q1, q2]
    unfold Txt.item Txt.charAt
    rw [e1]
  rw [e, item_nat _ _ (by omega)]
theorem item_rev (x : Str) (q : Nat) (h : q < x.length) : Txt.item x (-(q : Int) - 1) = ⟨#[x.cps.toList.reverse.getD q 0]⟩ := by
  have e : x.cps.toList.length = x.length := rfl
  rw [show (-(q : Int) - 1) = -((q + 1 : Nat) : Int) by omega, item_neg _ _ (Nat.succ_pos q) h]
  have h1 : x.length - (q + 1) < x.cps.toList.length := sub_s3 h
  have h2 : q < x.cps.toList.reverse.length := by rw [List.length_reverse]; exact h
  rw [List.getD_eq_getElem?_getD, List.getD_eq_getElem?_getD, List.getElem?_eq_getElem h1, List.getElem?_eq_getElem h2, Option.getD_some, Option.getD_some, List.getElem_reverse]
  have h3 : x.cps.toList.length - 1 - q = x.length - (q + 1) := sub_s2 _ _
  simp only [h3]
noncomputable def sPre : List Nat → List Nat → List Nat × List Nat
  | x :: xs, y :: ys => if x = y then sPre xs ys else (x :: xs, y :: ys)
  | xs, ys => (xs, ys)
theorem sPre_nil_l (ys : List Nat) : sPre [] ys = ([], ys) := by cases ys <;> rfl
theorem sPre_nil_r (xs : List Nat) : sPre xs [] = (xs, []) := by cases xs <;> rfl
theorem drop_getD {l : List Nat} {k : Nat} (h : k < l.length) : l.drop k = l.getD k 0 :: l.drop (k + 1) := by
  rw [List.drop_eq_getElem_cons h]
  simp [List.getD, h]
theorem sPre_step {x y : List Nat} {k : Nat} (hx : k < x.length) (hy : k < y.length) (e : x.getD k 0 = y.getD k 0) : sPre (x.drop (k + 1)) (y.drop (k + 1)) = sPre (x.drop k) (y.drop k) := by
  rw [drop_getD hx, drop_getD hy, e]
  simp [sPre]
theorem sPre_stop {x y : List Nat} {k : Nat} (h : x.length ≤ k ∨ y.length ≤ k ∨ x.getD k 0 ≠ y.getD k 0) : sPre (x.drop k) (y.drop k) = (x.drop k, y.drop k) := by
  by_cases hx : x.length ≤ k
  · rw [List.drop_of_length_le hx, sPre_nil_l]
  · by_cases hy : y.length ≤ k
    · rw [List.drop_of_length_le hy, sPre_nil_r]
    · have hne : x.getD k 0 ≠ y.getD k 0 := by rcases h with h | h | h <;> first | exact h | omega
      rw [drop_getD (by omega), drop_getD (by omega : k < y.length)]
      simp only [sPre, if_neg hne]
theorem slF_len (x : Str) (k : Nat) : (Txt.slice x (some (k : Int)) none).length = x.length - k := by rw [slF, str_len, List.length_drop]; rfl
theorem slQ (x : Str) (q : Nat) (h : q ≤ x.length) : Txt.slice x none (if -(q : Int) = 0 then none else some (-(q : Int))) = ⟨(x.cps.toList.take (x.length - q)).toArray⟩ := by
  by_cases h0 : q = 0
  · subst h0
    rw [if_pos (by decide), slN, Nat.sub_zero, List.take_of_length_le (show x.cps.toList.length ≤ x.length from Nat.le_refl _)]
  · rw [if_neg (by omega), slTn x q (Nat.pos_of_ne_zero h0) h]
theorem slQ_len (x : Str) (q : Nat) (h : q ≤ x.length) : (Txt.slice x none (if -(q : Int) = 0 then none else some (-(q : Int)))).length = x.length - q := by
  rw [slQ x q h, str_len, List.length_take]
  exact Nat.min_eq_left (Nat.sub_le _ _)
theorem sgl_eq {a b : Nat} : (⟨#[a]⟩ : Str) = ⟨#[b]⟩ ↔ a = b := by simp
end Uc
end
section
namespace Uc
noncomputable def subCost (a b : Str) : Int := if a = b then 0 else if Txt.lower a = Txt.lower b then 1 else 2
noncomputable def cst (c d : Nat) : Int := subCost ⟨#[c]⟩ ⟨#[d]⟩
noncomputable def BIG : Int := 9223372036854775807
noncomputable def inner (c : Nat) : List Nat → List Int → Int → Int → Int → List Int × Int × Int
  | x :: xs, r :: rs, d, res, mn =>
    let res' := min (min res r + 2) (d + cst c x)
    let t := inner c xs rs r res' (if res' < mn then res' else mn)
    (res' :: t.1, t.2)
  | _, rs, _, res, mn => (rs, res, mn)
noncomputable def outer (xs : List Nat) (mx : Int) : List Nat → Nat → List Int → Int → Int
  | [], _, _, res => res
  | c :: cs, bi, row, _ =>
    let t := inner c xs row ((bi : Int) * 2) ((bi : Int) * 2) BIG
    if mx < t.2.2 then mx + 1 else outer xs mx cs (bi + 1) t.1 t.2.1
noncomputable def row0 (n : Nat) : List Int := (List.range n).map fun (i : Nat) => 2 + (i : Int) * 2
noncomputable def lev3 (a b : List Nat) (mx : Int) : Int :=
  if mx < ((b.length : Int) - a.length) * 2 then mx + 1 else outer a mx b 0 (row0 a.length) 0
noncomputable def lev2 (a b : List Nat) (mx : Int) : Int :=
  if a.length = 0 ∨ b.length = 0 then 2 * ((a.length : Int) + b.length)
  else if 40 < a.length ∨ 40 < b.length then mx + 1
  else if b.length < a.length then lev3 b a mx else lev3 a b mx
noncomputable def levL (a b : List Nat) (mx : Int) : Int :=
  if a = b then 0 else
  let p := sPre a b
  let q := sPre p.1.reverse p.2.reverse
  lev2 q.1.reverse q.2.reverse mx
noncomputable def levS (a b : Str) (mx : Int) : Int := levL a.cps.toList b.cps.toList mx
end Uc
end
section
namespace Uc
noncomputable def Hid {α : Type} (P Z : α → Shared → Prop) : Prop := ∀ a s, P a s → Z a s
theorem Hid.go {α : Type} {P Z : α → Shared → Prop} {a : α} {s : Shared} (h : Hid P Z) (q : P a s) : Z a s := h a s q
noncomputable def Imp (a b : Prop) : Prop := a → b
theorem fpLLoooooRoooooR {α0 α1 α2 α3 α4 α5 α6 α7 α8 α9 : Type} {P : ((α0 × α1 × α2 × α3 × α4) × α5 × α6 × α7 × α8 × α9) → Prop} (h : ∀ a0 a1 a2 a3 a4 a5 a6 a7 a8 a9, P ((a0, a1, a2, a3, a4), a5, a6, a7, a8, a9)) : ∀ c, P c := fun c => h c.1.1 c.1.2.1 c.1.2.2.1 c.1.2.2.2.1 c.1.2.2.2.2 c.2.1 c.2.2.1 c.2.2.2.1 c.2.2.2.2.1 c.2.2.2.2.2
theorem fpLLoooRoooooR {α0 α1 α2 α3 α4 α5 α6 α7 : Type} {P : ((α0 × α1 × α2) × α3 × α4 × α5 × α6 × α7) → Prop} (h : ∀ a0 a1 a2 a3 a4 a5 a6 a7, P ((a0, a1, a2), a3, a4, a5, a6, a7)) : ∀ c, P c := fun c => h c.1.1 c.1.2.1 c.1.2.2 c.2.1 c.2.2.1 c.2.2.2.1 c.2.2.2.2.1 c.2.2.2.2.2
theorem fpLLoooooRoooR {α0 α1 α2 α3 α4 α5 α6 α7 : Type} {P : ((α0 × α1 × α2 × α3 × α4) × α5 × α6 × α7) → Prop} (h : ∀ a0 a1 a2 a3 a4 a5 a6 a7, P ((a0, a1, a2, a3, a4), a5, a6, a7)) : ∀ c, P c := fun c => h c.1.1 c.1.2.1 c.1.2.2.1 c.1.2.2.2.1 c.1.2.2.2.2 c.2.1 c.2.2.1 c.2.2.2
noncomputable abbrev Led := List (Addr × Obj)
theorem fpLooooR {α0 α1 α2 α3 : Type} {P : (α0 × α1 × α2 × α3) → Prop} (h : ∀ a0 a1 a2 a3, P (a0, a1, a2, a3)) : ∀ c, P c := fun c => h c.1 c.2.1 c.2.2.1 c.2.2.2
theorem fpLooR {α0 α1 : Type} {P : (α0 × α1) → Prop} (h : ∀ a0 a1, P (a0, a1)) : ∀ c, P c := fun c => h c.1 c.2
theorem fpLoooooR {α0 α1 α2 α3 α4 : Type} {P : (α0 × α1 × α2 × α3 × α4) → Prop} (h : ∀ a0 a1 a2 a3 a4, P (a0, a1, a2, a3, a4)) : ∀ c, P c := fun c => h c.1 c.2.1 c.2.2.1 c.2.2.2.1 c.2.2.2.2
theorem fpLLooooRooooR {α0 α1 α2 α3 α4 α5 α6 α7 : Type} {P : ((α0 × α1 × α2 × α3) × α4 × α5 × α6 × α7) → Prop} (h : ∀ a0 a1 a2 a3 a4 a5 a6 a7, P ((a0, a1, a2, a3), a4, a5, a6, a7)) : ∀ c, P c := fun c => h c.1.1 c.1.2.1 c.1.2.2.1 c.1.2.2.2 c.2.1 c.2.2.1 c.2.2.2.1 c.2.2.2.2
theorem fpLLooooooRoooooooR {α0 α1 α2 α3 α4 α5 α6 α7 α8 α9 α10 α11 α12 : Type} {P : ((α0 × α1 × α2 × α3 × α4 × α5) × α6 × α7 × α8 × α9 × α10 × α11 × α12) → Prop} (h : ∀ a0 a1 a2 a3 a4 a5 a6 a7 a8 a9 a10 a11 a12, P ((a0, a1, a2, a3, a4, a5), a6, a7, a8, a9, a10, a11, a12)) : ∀ c, P c := fun c => h c.1.1 c.1.2.1 c.1.2.2.1 c.1.2.2.2.1 c.1.2.2.2.2.1 c.1.2.2.2.2.2 c.2.1 c.2.2.1 c.2.2.2.1 c.2.2.2.2.1 c.2.2.2.2.2.1 c.2.2.2.2.2.2.1 c.2.2.2.2.2.2.2
theorem fpLooooooooR {α0 α1 α2 α3 α4 α5 α6 α7 : Type} {P : (α0 × α1 × α2 × α3 × α4 × α5 × α6 × α7) → Prop} (h : ∀ a0 a1 a2 a3 a4 a5 a6 a7, P (a0, a1, a2, a3, a4, a5, a6, a7)) : ∀ c, P c := fun c => h c.1 c.2.1 c.2.2.1 c.2.2.2.1 c.2.2.2.2.1 c.2.2.2.2.2.1 c.2.2.2.2.2.2.1 c.2.2.2.2.2.2.2
theorem fpLoooR {α0 α1 α2 : Type} {P : (α0 × α1 × α2) → Prop} (h : ∀ a0 a1 a2, P (a0, a1, a2)) : ∀ c, P c := fun c => h c.1 c.2.1 c.2.2
theorem fpLLooooRoR {α0 α1 α2 α3 α4 : Type} {P : ((α0 × α1 × α2 × α3) × α4) → Prop} (h : ∀ a0 a1 a2 a3 a4, P ((a0, a1, a2, a3), a4)) : ∀ c, P c := fun c => h c.1.1 c.1.2.1 c.1.2.2.1 c.1.2.2.2 c.2
theorem fpLLoooRoR {α0 α1 α2 α3 : Type} {P : ((α0 × α1 × α2) × α3) → Prop} (h : ∀ a0 a1 a2 a3, P ((a0, a1, a2), a3)) : ∀ c, P c := fun c => h c.1.1 c.1.2.1 c.1.2.2 c.2
theorem fpLLooRLooRLooRooR {α0 α1 α2 α3 α4 α5 α6 α7 : Type} {P : ((α0 × α1) × (α2 × α3) × (α4 × α5) × α6 × α7) → Prop} (h : ∀ a0 a1 a2 a3 a4 a5 a6 a7, P ((a0, a1), (a2, a3), (a4, a5), a6, a7)) : ∀ c, P c := fun c => h c.1.1 c.1.2 c.2.1.1 c.2.1.2 c.2.2.1.1 c.2.2.1.2 c.2.2.2.1 c.2.2.2.2
theorem kEn1v {A0 : Type} {V : A0 → Value} {X : Led} {C : Value → Led → Heap → Nat → Prop} (k : ∀ a0 h tk, C (V a0) X h tk) : ∀ v n h tk, (n = X ∧ ∃ a0, v = (V a0)) → C v n h tk := by
  rintro v n h tk ⟨rfl, a0, rfl⟩
  exact k a0 h tk
theorem kE2nv {A0 A1 : Type} {V : A0 → A1 → Value} {X : A0 → A1 → Led} {C : Value → Led → Heap → Nat → Prop} (k : ∀ a0 a1 h tk, C (V a0 a1) (X a0 a1) h tk) : ∀ v n h tk, (∃ a0 a1, n = (X a0 a1) ∧ v = (V a0 a1)) → C v n h tk := by
  rintro v n h tk ⟨a0, a1, rfl, rfl⟩
  exact k a0 a1 h tk
theorem kE3nv {A0 A1 A2 : Type} {V : A0 → A1 → A2 → Value} {X : A0 → A1 → A2 → Led} {C : Value → Led → Heap → Nat → Prop} (k : ∀ a0 a1 a2 h tk, C (V a0 a1 a2) (X a0 a1 a2) h tk) : ∀ v n h tk, (∃ a0 a1 a2, n = (X a0 a1 a2) ∧ v = (V a0 a1 a2)) → C v n h tk := by
  intro v n h tk w4q; (refine Uc.ex3 w4q fun a0 a1 a2 => Uc.an2 fun e1q e2q => ?_; clear w4q; subst e1q; subst e2q)
  exact k a0 a1 a2 h tk
theorem kE4pnv {A0 A1 A2 A3 : Type} {V : A0 → A1 → A2 → A3 → Value} {X : A0 → A1 → A2 → A3 → Led} {P : A0 → A1 → A2 → A3 → Prop} {C : Value → Led → Heap → Nat → Prop} (k : ∀ a0 a1 a2 a3 h tk, (P a0 a1 a2 a3) → C (V a0 a1 a2 a3) (X a0 a1 a2 a3) h tk) : ∀ v n h tk, (∃ a0 a1 a2 a3, (P a0 a1 a2 a3) ∧ n = (X a0 a1 a2 a3) ∧ v = (V a0 a1 a2 a3)) → C v n h tk := by
  intro v n h tk w6q; (refine Uc.ex4 w6q fun a0 a1 a2 a3 => Uc.an3 fun hp e1q e2q => ?_; clear w6q; subst e1q; subst e2q)
  exact k a0 a1 a2 a3 h tk hp
theorem kE0nv {V : Value} {X : Led} {C : Value → Led → Heap → Nat → Prop} (k : ∀  h tk, C V X h tk) : ∀ v n h tk, (n = X ∧ v = V) → C v n h tk := by
  rintro v n h tk ⟨rfl, rfl⟩
  exact k  h tk
theorem kE5npv {A0 A1 A2 A3 A4 : Type} {V : A0 → A1 → A2 → A3 → A4 → Value} {X : A0 → A1 → A2 → A3 → A4 → Led} {P : A0 → A1 → A2 → A3 → A4 → Prop} {C : Value → Led → Heap → Nat → Prop} (k : ∀ a0 a1 a2 a3 a4 h tk, (P a0 a1 a2 a3 a4) → C (V a0 a1 a2 a3 a4) (X a0 a1 a2 a3 a4) h tk) : ∀ v n h tk, (∃ a0 a1 a2 a3 a4, n = (X a0 a1 a2 a3 a4) ∧ (P a0 a1 a2 a3 a4) ∧ v = (V a0 a1 a2 a3 a4)) → C v n h tk := by
  intro v n h tk w10q; (refine Uc.ex5 w10q fun a0 a1 a2 a3 a4 => Uc.an3 fun e1q hp e2q => ?_; clear w10q; subst e1q; subst e2q)
  exact k a0 a1 a2 a3 a4 h tk hp
theorem kE1nv {A0 : Type} {V : A0 → Value} {X : A0 → Led} {C : Value → Led → Heap → Nat → Prop} (k : ∀ a0 h tk, C (V a0) (X a0) h tk) : ∀ v n h tk, (∃ a0, n = (X a0) ∧ v = (V a0)) → C v n h tk := by
  rintro v n h tk ⟨a0, rfl, rfl⟩
  exact k a0 h tk
theorem kE13nvp {A0 A1 A2 A3 A4 A5 A6 A7 A8 A9 A10 A11 A12 : Type} {V : A0 → A1 → A2 → A3 → A4 → A5 → A6 → A7 → A8 → A9 → A10 → A11 → A12 → Value} {X : A0 → A1 → A2 → A3 → A4 → A5 → A6 → A7 → A8 → A9 → A10 → A11 → A12 → Led} {P : A0 → A1 → A2 → A3 → A4 → A5 → A6 → A7 → A8 → A9 → A10 → A11 → A12 → Prop} {C : Value → Led → Heap → Nat → Prop} (k : ∀ a0 a1 a2 a3 a4 a5 a6 a7 a8 a9 a10 a11 a12 h tk, (P a0 a1 a2 a3 a4 a5 a6 a7 a8 a9 a10 a11 a12) → C (V a0 a1 a2 a3 a4 a5 a6 a7 a8 a9 a10 a11 a12) (X a0 a1 a2 a3 a4 a5 a6 a7 a8 a9 a10 a11 a12) h tk) : ∀ v n h tk, (∃ a0 a1 a2 a3 a4 a5 a6 a7 a8 a9 a10 a11 a12, n = (X a0 a1 a2 a3 a4 a5 a6 a7 a8 a9 a10 a11 a12) ∧ v = (V a0 a1 a2 a3 a4 a5 a6 a7 a8 a9 a10 a11 a12) ∧ (P a0 a1 a2 a3 a4 a5 a6 a7 a8 a9 a10 a11 a12)) → C v n h tk := by
  intro v n h tk w14q; (refine Uc.ex9 w14q fun a0 a1 a2 a3 a4 a5 a6 a7 a8 => Uc.xe4 fun a9 a10 a11 a12 => Uc.an3 fun e1q e2q hp => ?_; clear w14q; subst e1q; subst e2q)
  exact k a0 a1 a2 a3 a4 a5 a6 a7 a8 a9 a10 a11 a12 h tk hp
theorem kE3npv {A0 A1 A2 : Type} {V : A0 → A1 → A2 → Value} {X : A0 → A1 → A2 → Led} {P : A0 → A1 → A2 → Prop} {C : Value → Led → Heap → Nat → Prop} (k : ∀ a0 a1 a2 h tk, (P a0 a1 a2) → C (V a0 a1 a2) (X a0 a1 a2) h tk) : ∀ v n h tk, (∃ a0 a1 a2, n = (X a0 a1 a2) ∧ (P a0 a1 a2) ∧ v = (V a0 a1 a2)) → C v n h tk := by
  intro v n h tk w16q; (refine Uc.ex3 w16q fun a0 a1 a2 => Uc.an3 fun e1q hp e2q => ?_; clear w16q; subst e1q; subst e2q)
  exact k a0 a1 a2 h tk hp
end Uc
namespace Uc
noncomputable abbrev Pm : Program := PySem.Challenge.rw_uc0057_03.prog
noncomputable abbrev Con (w : World) (p : Program) (loose : List Str) (mean : ExcName → Option Value) (mg mb : Str → Option Value) (f : Addr) (d u : Nat) (vs : List Value) (news : List (Addr × Obj)) (pre : Heap → Prop) (R : Value → List (Addr × Obj) → Prop) : Prop :=
  ∀ (dp un : Nat) (gd : Option (List Code)) (cn : Str) (cs : Scope) (a : Addr) (ccd : Value) (cl : List (Str × Addr)) (outer : List Env) (A₀ : Around) (base h₀ : Heap) (L : Addr) (m : Str → Option Value) (s : Shared) (Q E : Value → Shared → Prop),
    Below A₀ base outer h₀ → Fr h₀ L s.heap m → (K w.params).In h₀ → News h₀ L s.heap news → Top p loose mean mg mb h₀ → cs.kind = .function → pre base → dp + d < recursionLimit → un + u < cLine →
    (∀ v news' h' tk', R v news' → Fr h₀ L h' m → News h₀ L h' news' → Q v { s with heap := h', toks := tk' }) →
    wpAny (model Pm w) (ktrTop dp un gd cn cs L a ccd cl outer) (call (.ref f) vs) Q E s
noncomputable abbrev Nms := List (Str × Value)
noncomputable def fm (u : Str → Option Value) : Nms → Str → Option Value
  | [] => u
  | p :: r => fun z => if z = p.1 then some p.2 else fm u r z
noncomputable def Has (m : Str → Option Value) : Nms → Prop
  | [] => True
  | p :: r => m p.1 = some p.2 ∧ Has m r
theorem allLt_all {d : Addr} : ∀ {l : Led}, AllLt d l → ∀ p ∈ l, p.1 < d
  | [], _, p, h => absurd h List.not_mem_nil
  | q :: l, h, p, hp => by
    rcases List.mem_cons.mp hp with rfl | hp
    · exact h.1
    · exact allLt_all h.2 p hp
theorem News.cutLt {h₀ h : Heap} {L d : Addr} {o : Obj} {r : Led} (N : News h₀ L h ((d, o) :: r)) (a : AllLt d r) : ∃ R, R = r ∧ News h₀ L h ((d, o) :: R) ∧ ∀ q ∈ R, q.1 ≠ d := ⟨r, rfl, N, fun q hq => Nat.ne_of_lt (allLt_all a q hq)⟩
theorem News.ne {h₀ h : Heap} {L a b : Addr} {oa ob : Obj} {l : Led} (N : News h₀ L h l) (ha : (a, oa) ∈ l) (hb : (b, ob) ∈ l) (hd : oa.cls ≠ ob.cls) : a ≠ b := fun e => by
  have x := (N _ ha).1
  have y := (N _ hb).1
  dsimp only at x y
  rw [e, y] at x
  exact hd (congrArg Obj.cls (Option.some.inj x).symm)
theorem fm_eq {m : Str → Option Value} : ∀ {l : Nms}, Has m l → fm m l = m
  | [], _ => rfl
  | p :: r, h => by
    funext z
    show (if z = p.1 then some p.2 else fm m r z) = m z
    by_cases q : z = p.1
    · rw [if_pos q, q]; exact h.1.symm
    · rw [if_neg q, fm_eq h.2]
theorem News.sub {h₀ h : Heap} {L : Addr} {a b : Led} (N : News h₀ L h a) (hs : ∀ p ∈ b, p ∈ a) : News h₀ L h b := fun p hp => N p (hs p hp)
theorem rsize2 {n : Nat} {x : Int} (h : x = 2 * ((n : Int) + 1)) : Builtin.Range.rangeSize 2 x 2 = (n : Int) := by
  subst h
  unfold Builtin.Range.rangeSize
  rw [if_pos (by decide)]
  split <;> omega
theorem rsize1 {n : Nat} {x : Int} (h : x = (n : Int)) : Builtin.Range.rangeSize 0 x 1 = (n : Int) := by
  subst h
  unfold Builtin.Range.rangeSize
  rw [if_pos (by decide)]
  split <;> omega
theorem rsmall {a b c : Int} (h1 : 0 ≤ a) (h2 : a ≤ 1000000) (h3 : -1000000 ≤ b) (h4 : b ≤ 1000000) (h5 : 1 ≤ c) (h6 : c ≤ 1000) : Builtin.Range.small a b c = true := by
  have hn : 0 ≤ Builtin.Range.rangeSize a b c ∧ Builtin.Range.rangeSize a b c ≤ 2000000 := by
    unfold Builtin.Range.rangeSize
    rw [if_pos (by omega)]
    split
    · have h0 : 0 ≤ (b - a - 1) / c := Int.ediv_nonneg (by omega) (by omega)
      have h1 : (b - a - 1) / c ≤ b - a - 1 := Int.ediv_le_self _ (by omega)
      omega
    · omega
  have fit : ∀ i : Int, -10000000 ≤ i → i ≤ 10000000 → Builtin.Range.rangeFitsLong i = true := fun i p q => by
    unfold Builtin.Range.rangeFitsLong
    simp only [Bool.and_eq_true, decide_eq_true_eq]
    omega
  unfold Builtin.Range.small
  rw [fit a (by omega) (by omega), fit b (by omega) (by omega), fit c (by omega) (by omega), fit _ (by omega) (by omega), if_pos (by omega), fit _ (by omega) (by omega)]
  simp
section
variable {prog : Program} {w : World} {A : Around} {E : Value → Shared → Prop} {Q : Flow → Shared → Prop} {s : Shared} {env : Env} {h₀ : Heap} {x : Str} {body : List Stmt}
noncomputable def Got (h₀ : Heap) (L : Addr) {σ : Type} (led : σ → Led) (ps : σ → Nms) (P : σ → Prop) (s s' : Shared) : Prop :=
  ∃ c' m' h' tk', s' = { s with heap := h', toks := tk' } ∧ Fr h₀ L h' m' ∧ News h₀ L h' (led c') ∧ Has m' (ps c') ∧ P c'
noncomputable def GotN (h₀ : Heap) (L : Addr) {σ : Type} (led : σ → Led) (ps : σ → Nms) (P : σ → Prop) (s : Shared) (f : Flow) (s' : Shared) : Prop := f = .next ∧ Got h₀ L led ps P s s'
theorem Got.mk {h₀ h' : Heap} {L : Addr} {σ : Type} {led : σ → Led} {ps : σ → Nms} {P : σ → Prop} {s : Shared} {m' : Str → Option Value} {news' : Led} {tk' : Nat} (c' : σ)
    (F : Fr h₀ L h' m') (N : News h₀ L h' news') (hs : ∀ p ∈ led c', p ∈ news') (hk : Has m' (ps c')) (hp : P c') : Got h₀ L led ps P s { s with heap := h', toks := tk' } := Uc.ei4 c' m' h' tk' ⟨rfl, F, News.sub N hs, hk, hp⟩
theorem for_c {σ : Type} {I : Addr} {fp wr : List Addr} {n : Nat} {P : Nat → Value → Prop} {St : Nat → Heap → Prop} {m₀ : Str → Option Value} (led : σ → Led) (ps : σ → Nms) (R : Nat → σ → Prop) (c₀ : σ)
    (W : Walks prog w A I fp wr n P St) (hLf : env.locals ∉ fp) (hwr : ∀ b ∈ wr, h₀.get? b = none) (hst : St 0 s.heap)
    (F : Fr h₀ env.locals s.heap m₀) (N : News h₀ env.locals s.heap (led c₀)) (hnw : ∀ p ∈ led c₀, p.1 ∉ wr) (hk : Has m₀ (ps c₀)) (hp : R 0 c₀)
    (turn : ∀ i v (c : σ) (u : Str → Option Value) h tk own, i < n → P i v → R i c → (∀ p ∈ led c, p.1 ∉ wr) →
      (∀ b ∈ wr, ∀ o, h.get? b = some o → (b, o) ∈ own) → (∀ p ∈ own, p.1 ∈ fp ∧ h.get? p.1 = some p.2) → St (i + 1) h → Fr h₀ env.locals h (fun y => if y = x then some v else fm u (ps c) y) → News h₀ env.locals h (led c ++ own) →
      wpAny (model prog w) A (execs body env) (fun f s' => match f with
        | .ret v => Q (.ret v) s'
        | .brk => Q .next s'
        | _ => ∃ c' m' h' tk', s' = { s with heap := h', toks := tk' } ∧ Fr h₀ env.locals h' m' ∧ News h₀ env.locals h' (led c' ++ own) ∧ (∀ p ∈ led c', p.1 ∉ wr) ∧ Has m' (ps c') ∧ R (i + 1) c') E { s with heap := h, toks := tk })
    (done : ∀ c u h tk, R n c → Fr h₀ env.locals h (fm u (ps c)) → News h₀ env.locals h (led c) → Q .next { s with heap := h, toks := tk }) :
    LoopAtV prog w A h₀ env x body Q E (.ref I) s := by
  refine ⟨I, fp, wr, n, P, St, m₀, led c₀, fun i m nx => ∃ c : σ, nx = led c ∧ Has m (ps c) ∧ R i c, rfl, W, hLf, hwr, hnw, hst, F, N, ⟨c₀, rfl, hk, hp⟩, ?_, ?_⟩
  · intro i v m₁ nx s₁ own w19q hi hP w20q hnw' hin hown1 hown st F₁ N₁; obtain ⟨h, tk, rfl⟩ := w19q; (refine Uc.ex1 w20q fun c => Uc.an3 fun e1q h1 hR => ?_; clear w20q; subst e1q)
    have N₂ : News h₀ env.locals h (led c ++ own) := fun p hp => N₁ p (by rw [List.mem_append] at hp ⊢; exact hp.symm)
    refine wpAny_mono (turn i v c m₁ h tk own hi hP hR hnw' (fun b hb o ho => hown b (W.sub b hb) (hwr b hb) o ho) (fun p hp => ⟨hin p hp, hown1 p hp⟩) st (by rw [fm_eq h1]; exact F₁) N₂) (fun f s₂ q => ?_) fun _ _ x => x
    have fin : (∃ c' m' h' tk', s₂ = { s with heap := h', toks := tk' } ∧ Fr h₀ env.locals h' m' ∧ News h₀ env.locals h' (led c' ++ own) ∧ (∀ p ∈ led c', p.1 ∉ wr) ∧ Has m' (ps c') ∧ R (i + 1) c') →
        LoopStepU h₀ env.locals wr own (fun m nx => ∃ c : σ, nx = led c ∧ Has m (ps c) ∧ R (i + 1) c) { s with heap := h, toks := tk } .next s₂ := by
      intro w21q; (refine Uc.ex4 w21q fun c' m' h' tk' => Uc.an6 fun e1q F' N' hn' hk' hR' => ?_; clear w21q; subst e1q)
      exact ⟨rfl, h', tk', m', led c', rfl, F', fun p hp => N' p (by rw [List.mem_append] at hp ⊢; exact hp.symm), hn', c', rfl, hk', hR'⟩
    cases f with
    | ret v => exact .ret q
    | brk => exact .brk q
    | next => exact .next (fin q)
    | cont => exact .cont (fin q)
  · rintro h' tk m' nx F' N' _ ⟨c, rfl, h1, hR⟩
    exact done c m' h' tk hR (by rw [fm_eq h1]; exact F') N'
noncomputable def isIt (o : Obj) : Bool := match o.data with
  | .fields _ => true
  | _ => false
noncomputable def Turn (h₀ : Heap) (L : Addr) {σ : Type} (led : σ → Led) (ps : σ → Nms) (R : σ → Prop) (c : σ) (I : Addr) (o : Obj) (s : Shared) (Q : Flow → Shared → Prop) (f : Flow) (s' : Shared) : Prop := match f with
  | .ret v => Q (.ret v) s'
  | .brk => Q .next s'
  | _ => ∃ c' m' h' tk', s' = { s with heap := h', toks := tk' } ∧ Fr h₀ L h' m' ∧ News h₀ L h' (led c' ++ [(I, o)]) ∧ (∀ p ∈ led c', p.1 ∈ (led c).map (·.1) ∨ isIt p.2 = false) ∧ Has m' (ps c') ∧ R c'
theorem Turn.next {h₀ h' : Heap} {L : Addr} {σ : Type} {led : σ → Led} {ps : σ → Nms} {R : σ → Prop} {c : σ} {I : Addr} {o : Obj} {s : Shared} {Q : Flow → Shared → Prop} {m' : Str → Option Value} {news' : Led} {tk' : Nat} (c' : σ)
    (F : Fr h₀ L h' m') (N : News h₀ L h' news') (hs : ∀ p ∈ led c' ++ [(I, o)], p ∈ news') (ha : ∀ p ∈ led c', p.1 ∈ (led c).map (·.1) ∨ isIt p.2 = false) (hk : Has m' (ps c')) (hp : R c') : Turn h₀ L led ps R c I o s Q .next { s with heap := h', toks := tk' } :=
  Uc.ei4 c' m' h' tk' ⟨rfl, F, News.sub N hs, ha, hk, hp⟩
theorem Turn.brk {h₀ : Heap} {L : Addr} {σ : Type} {led : σ → Led} {ps : σ → Nms} {R : σ → Prop} {c : σ} {I : Addr} {o : Obj} {s s' : Shared} {Q : Flow → Shared → Prop} (h : Q .next s') : Turn h₀ L led ps R c I o s Q .brk s' := h
theorem apart {h₀ h : Heap} {L I : Addr} {o : Obj} {l l' : Led} (ho : isIt o = true) (hne : ∀ p ∈ l, p.1 ≠ I) (N : News h₀ L h (l' ++ [(I, o)])) (h1 : ∀ p ∈ l', p.1 ∈ l.map (·.1) ∨ isIt p.2 = false) : ∀ p ∈ l', p.1 ≠ I := by
  intro p hp e
  rcases h1 p hp with q | q
  · obtain ⟨r, hr, hr'⟩ := List.mem_map.mp q
    exact hne r hr (hr'.trans e)
  · have a := (N p (List.mem_append.mpr (.inl hp))).1
    have b := (N (I, o) (List.mem_append.mpr (.inr (.head _)))).1
    rw [e] at a
    have : p.2 = o := Option.some.inj (a.symm.trans b)
    rw [this, ho] at q
    cases q
theorem iter_one {σ : Type} {I : Addr} {n : Nat} {P : Nat → Value → Prop} {St : Nat → Heap → Prop} {m₀ : Str → Option Value} (led : σ → Led) (ps : σ → Nms) (R : Nat → σ → Prop) (c₀ : σ)
    (W : Walks prog w A I [I] [I] n P St) (hSt : ∀ i h, St i h → ∃ o, h.get? I = some o ∧ isIt o = true) (hL : I ≠ env.locals) (hI : h₀.get? I = none) (hst : St 0 s.heap)
    (F : Fr h₀ env.locals s.heap m₀) (N : News h₀ env.locals s.heap (led c₀)) (hnw : ∀ p ∈ led c₀, p.1 ≠ I) (hk : Has m₀ (ps c₀)) (hp : R 0 c₀)
    (turn : ∀ i v (c : σ) (u : Str → Option Value) h tk o, i < n → P i v → R i c → (∀ p ∈ led c, p.1 ≠ I) → isIt o = true → Fr h₀ env.locals h (fun y => if y = x then some v else fm u (ps c) y) → News h₀ env.locals h (led c ++ [(I, o)]) →
      wpAny (model prog w) A (execs body env) (Turn h₀ env.locals led ps (R (i + 1)) c I o { s with heap := h, toks := tk } Q) E { s with heap := h, toks := tk })
    (done : ∀ c u h tk, R n c → Fr h₀ env.locals h (fm u (ps c)) → News h₀ env.locals h (led c) → Q .next { s with heap := h, toks := tk }) :
    LoopAtV prog w A h₀ env x body Q E (.ref I) s := by
  refine for_c led ps R c₀ W (fun hm => hL (List.mem_singleton.mp hm).symm) (fun b hb => by rw [List.mem_singleton.mp hb]; exact hI) hst F N (fun p hp hm => hnw p hp (List.mem_singleton.mp hm)) hk hp ?_ done
  intro i v c u h tk own hi hP hR hnw' hown hin st F₁ N₁
  obtain ⟨o, ho, hit⟩ := hSt _ _ st
  have hne : ∀ p ∈ led c, p.1 ≠ I := fun p hp e => hnw' p hp (List.mem_singleton.mpr e)
  have hIo := hown I (List.mem_singleton.mpr rfl) o ho
  have all : ∀ p ∈ own, p = (I, o) := fun p hp => by
    obtain ⟨a, b⟩ := hin p hp
    have a' := List.mem_singleton.mp a
    rw [a', ho] at b
    exact Prod.ext a' (Option.some.inj b).symm
  have N₂ : News h₀ env.locals h (led c ++ [(I, o)]) := News.sub N₁ fun p hp => by
    rcases List.mem_append.mp hp with q | q
    · exact List.mem_append.mpr (.inl q)
    · rw [List.mem_singleton.mp q]; exact List.mem_append.mpr (.inr hIo)
  refine wpAny_mono (turn i v c u h tk o hi hP hR hne hit F₁ N₂) (fun f s₂ q => ?_) fun _ _ x => x
  have fin : (∃ c' m' h' tk', s₂ = { s with heap := h', toks := tk' } ∧ Fr h₀ env.locals h' m' ∧ News h₀ env.locals h' (led c' ++ [(I, o)]) ∧ (∀ p ∈ led c', p.1 ∈ (led c).map (·.1) ∨ isIt p.2 = false) ∧ Has m' (ps c') ∧ R (i + 1) c') →
      ∃ c' m' h' tk', s₂ = { s with heap := h', toks := tk' } ∧ Fr h₀ env.locals h' m' ∧ News h₀ env.locals h' (led c' ++ own) ∧ (∀ p ∈ led c', p.1 ∉ [I]) ∧ Has m' (ps c') ∧ R (i + 1) c' := by
    intro w23q; (refine Uc.ex4 w23q fun c' m' h' tk' => Uc.an6 fun e1q F' N' hn' hk' hR' => ?_; clear w23q; subst e1q)
    refine Uc.ei4 c' m' h' tk' ⟨rfl, F', News.sub N' fun p hp => ?_, fun p hp hm => apart hit hne N' hn' p hp (List.mem_singleton.mp hm), hk', hR'⟩
    rcases List.mem_append.mp hp with q | q
    · exact List.mem_append.mpr (.inl q)
    · rw [all p q]; exact List.mem_append.mpr (.inr (.head _))
  cases f with
  | ret v => exact q
  | brk => exact q
  | next => exact fin q
  | cont => exact fin q
theorem iter_range {σ : Type} {r : Addr} {a b c : Int} {t₀ u₀ v₀ : Tok} {n : Nat} {m₀ : Str → Option Value} (led : σ → Led) (ps : σ → Nms) (R : Nat → σ → Prop) (c₀ : σ) (hh : A.handled = none)
    (hr : IsRange s.heap r a b c t₀ u₀ v₀) (hsmall : Builtin.Range.small a b c = true) (hn : Builtin.Range.rangeSize a b c = (n : Int)) 
    (F : Fr h₀ env.locals s.heap m₀) (N : News h₀ env.locals s.heap (led c₀)) (hk : Has m₀ (ps c₀)) (hp : R 0 c₀)
    (turn : ∀ i t (c' : σ) (u : Str → Option Value) h tk I o, i < n → R i c' → (∀ p ∈ led c', p.1 ≠ I) → isIt o = true → Fr h₀ env.locals h (fun y => if y = x then some (.int (a + (i : Int) * c) t) else fm u (ps c') y) → News h₀ env.locals h (led c' ++ [(I, o)]) →
      ∀ Z : Flow → Shared → Prop, Hid (Turn h₀ env.locals led ps (R (i + 1)) c' I o { s with heap := h, toks := tk } Q) Z → wpAny (model prog w) A (execs body env) Z E { s with heap := h, toks := tk })
    (done : ∀ c u h tk, R n c → Fr h₀ env.locals h (fm u (ps c)) → News h₀ env.locals h (led c) → Q .next { s with heap := h, toks := tk }) :
    wpAny (model prog w) A (pyIter (.ref r)) (fun it s₂ => LoopAtV prog w A h₀ env x body Q E it s₂) E s := by
  refine wpAny_pyIter_range hr hsmall ?_
  have W : Walks prog w A s.heap.objs.size [s.heap.objs.size] [s.heap.objs.size] n (fun i v => i < n ∧ ∃ t, v = .int (a + i * c) t)
      (fun i h => IsRangeIter h s.heap.objs.size (a + (i : Nat) * c) ((n : Int) - (i : Nat)) c) := (Walks.range hh _ a c n).bound
  refine iter_one led ps R c₀ W (fun i h st => ⟨_, st, rfl⟩) (fun e => absurd F.ns.lt (e ▸ Nat.lt_irrefl _)) (next_is_new F) (by show IsRangeIter _ _ _ _ _; rw [hn]; simpa using Heap.get?_push_size _ rfl) (F.push _) (fun p hp => ⟨Heap.get?_push_of_some _ (N p hp).1, (N p hp).2⟩)
    (fun p hp hI => absurd (Heap.lt_size (N p hp).1) (hI ▸ Nat.lt_irrefl _)) hk hp ?_ ?_
  · rintro i v c' u h tk o hi ⟨_, t, rfl⟩ hR hne hit F₁ N₁
    exact turn i t c' u h tk _ o hi hR hne hit F₁ N₁ _ fun _ _ q => q
  · exact fun c u h tk hR F N => done c u h tk hR F N
theorem iter_to {σ : Type} {r : Addr} {b : Int} {t₀ u₀ v₀ : Tok} {m₀ : Str → Option Value} (n : Nat) (led : σ → Led) (ps : σ → Nms) (R : Nat → σ → Prop) (c₀ : σ) (hh : A.handled = none)
    (hr : IsRange s.heap r 0 b 1 t₀ u₀ v₀) (hb : b = (n : Int)) (hn : n ≤ 100000)
    (F : Fr h₀ env.locals s.heap m₀) (N : News h₀ env.locals s.heap (led c₀)) (hk : Has m₀ (ps c₀)) (hp : R 0 c₀)
    (turn : ∀ i t (c' : σ) (u : Str → Option Value) h tk I o, i < n → R i c' → (∀ p ∈ led c', p.1 ≠ I) → isIt o = true → Fr h₀ env.locals h (fun y => if y = x then some (.int (i : Int) t) else fm u (ps c') y) → News h₀ env.locals h (led c' ++ [(I, o)]) →
      ∀ Z : Flow → Shared → Prop, Hid (Turn h₀ env.locals led ps (R (i + 1)) c' I o { s with heap := h, toks := tk } Q) Z → wpAny (model prog w) A (execs body env) Z E { s with heap := h, toks := tk })
    (done : ∀ c u h tk, R n c → Fr h₀ env.locals h (fm u (ps c)) → News h₀ env.locals h (led c) → Q .next { s with heap := h, toks := tk }) :
    wpAny (model prog w) A (pyIter (.ref r)) (fun it s₂ => LoopAtV prog w A h₀ env x body Q E it s₂) E s := by
  refine iter_range (n := n) led ps R c₀ hh hr (rsmall (by omega) (by omega) (by omega) (by omega) (by omega) (by omega)) (rsize1 hb) F N hk hp (fun i t c' u h tk I o hi hR hne hit F₁ N₁ => ?_) done
  refine turn i t c' u h tk I o hi hR hne hit ?_ N₁
  have : (0 : Int) + (i : Int) * 1 = (i : Int) := by omega
  rw [this] at F₁
  exact F₁
theorem iter_str {σ : Type} {y : Str} {t₀ : Tok} {m₀ : Str → Option Value} (led : σ → Led) (ps : σ → Nms) (R : Nat → σ → Prop) (c₀ : σ) (hh : A.handled = none)
    (F : Fr h₀ env.locals s.heap m₀) (N : News h₀ env.locals s.heap (led c₀)) (hk : Has m₀ (ps c₀)) (hp : R 0 c₀)
    (turn : ∀ i k t (c' : σ) (u : Str → Option Value) h tk I o, y.cps[i]? = some k → R i c' → (∀ p ∈ led c', p.1 ≠ I) → isIt o = true → Fr h₀ env.locals h (fun z => if z = x then some (.str ⟨#[k]⟩ t) else fm u (ps c') z) → News h₀ env.locals h (led c' ++ [(I, o)]) →
      ∀ Z : Flow → Shared → Prop, Hid (Turn h₀ env.locals led ps (R (i + 1)) c' I o { s with heap := h, toks := tk } Q) Z → wpAny (model prog w) A (execs body env) Z E { s with heap := h, toks := tk })
    (done : ∀ c u h tk, R y.cps.size c → Fr h₀ env.locals h (fm u (ps c)) → News h₀ env.locals h (led c) → Q .next { s with heap := h, toks := tk }) :
    wpAny (model prog w) A (pyIter (.str y t₀)) (fun it s₂ => LoopAtV prog w A h₀ env x body Q E it s₂) E s := by
  have key : ∀ ty o, Walks prog w A s.heap.objs.size [s.heap.objs.size] [s.heap.objs.size] y.cps.size (SignAt y) (fun i h => h.IsStrIter s.heap.objs.size ty y t₀ i) → (s.heap.push o).IsStrIter s.heap.objs.size ty y t₀ 0 →
      LoopAtV prog w A h₀ env x body Q E (.ref s.heap.objs.size) { s with heap := s.heap.push o } := by
    intro ty o W st
    refine iter_one led ps R c₀ W (fun i h st => let ⟨o, h1, _, h2⟩ := st; ⟨o, h1, by unfold isIt; rw [h2]⟩) (fun e => absurd F.ns.lt (e ▸ Nat.lt_irrefl _)) (next_is_new F) st (F.push _) (fun p hp => ⟨Heap.get?_push_of_some _ (N p hp).1, (N p hp).2⟩)
      (fun p hp hI => absurd (Heap.lt_size (N p hp).1) (hI ▸ Nat.lt_irrefl _)) hk hp ?_ ?_
    · rintro i v c' u h tk o' hi ⟨k, t, hk', rfl⟩ hR hne hit F₁ N₁
      exact turn i k t c' u h tk _ o' hk' hR hne hit F₁ N₁ _ fun _ _ q => q
    · exact fun c u h tk hR F N => done c u h tk hR F N
  cases ha : y.cps.all (· < 128)
  · exact wpAny_pyIter_wide ha (key _ _ (Walks.strWide hh _ y t₀) ⟨_, Heap.get?_push_size _ rfl, rfl, rfl⟩)
  · exact wpAny_pyIter_ascii ha (key _ _ (Walks.strAscii hh _ y t₀) ⟨_, Heap.get?_push_size _ rfl, rfl, rfl⟩)
theorem iter_listL {σ : Type} {l : Addr} {nn : Nat} {vs : List Value} {m₀ : Str → Option Value} (led : σ → Led) (ps : σ → Nms) (R : Nat → σ → Prop) (c₀ : σ) (hh : A.handled = none) (hl : ∀ c, (l, listOf vs.toArray nn) ∈ led c)
    (F : Fr h₀ env.locals s.heap m₀) (N : News h₀ env.locals s.heap (led c₀)) (hk : Has m₀ (ps c₀)) (hp : R 0 c₀)
    (turn : ∀ i v (c' : σ) (u : Str → Option Value) h tk I o, vs[i]? = some v → R i c' → (∀ p ∈ led c', p.1 ≠ I) → isIt o = true → Fr h₀ env.locals h (fun z => if z = x then some v else fm u (ps c') z) → News h₀ env.locals h (led c' ++ [(I, o)]) →
      ∀ Z : Flow → Shared → Prop, Hid (Turn h₀ env.locals led ps (R (i + 1)) c' I o { s with heap := h, toks := tk } Q) Z → wpAny (model prog w) A (execs body env) Z E { s with heap := h, toks := tk })
    (done : ∀ c u h tk, R vs.length c → Fr h₀ env.locals h (fm u (ps c)) → News h₀ env.locals h (led c) → Q .next { s with heap := h, toks := tk }) :
    wpAny (model prog w) A (pyIter (.ref l)) (fun it s₂ => LoopAtV prog w A h₀ env x body Q E it s₂) E s := by
  have z := N _ (hl c₀)
  have hls : s.heap.IsList l vs.toArray := ⟨_, z.1, rfl, nn, rfl⟩
  have hlt : l < s.heap.objs.size := Heap.lt_size z.1
  have hne : l ≠ s.heap.objs.size := Nat.ne_of_lt hlt
  refine wpAny_pyIter_list hls ?_
  have W := Walks.list (prog := prog) (w := w) hh s.heap.objs.size l hne vs.toArray
  refine for_c led ps R c₀ W ?_ (fun b hb => by rw [List.mem_singleton.mp hb]; exact next_is_new F) ⟨⟨_, Heap.get?_push_size _ rfl, rfl, rfl⟩, hls.at fun o e => Heap.get?_push_of_some _ e⟩ (F.push _) (fun p hp => ⟨Heap.get?_push_of_some _ (N p hp).1, (N p hp).2⟩)
    (fun p hp hI => absurd (Heap.lt_size (N p hp).1) ((List.mem_singleton.mp hI) ▸ Nat.lt_irrefl _)) hk hp ?_ ?_
  · intro hm
    rcases List.mem_cons.mp hm with e | hm
    · exact absurd F.ns.lt (e ▸ Nat.lt_irrefl _)
    · exact z.2.1 (List.mem_singleton.mp hm).symm
  · intro i v c u h tk own hi hP hR hnw' hown hin st F₁ N₁
    (refine Uc.ah2 st fun w28q _ => ?_; clear st); (refine Uc.ex1 w28q fun o => Uc.an3 fun ho _ hd => ?_; clear w28q)
    have hit : isIt o = true := by unfold isIt; rw [hd]
    have hne' : ∀ p ∈ led c, p.1 ≠ s.heap.objs.size := fun p hp e => hnw' p hp (List.mem_singleton.mpr e)
    have hIo := hown _ (List.mem_singleton.mpr rfl) o ho
    have all : ∀ p ∈ own, p = (s.heap.objs.size, o) ∨ p = (l, listOf vs.toArray nn) := fun p hp => by
      obtain ⟨a, b⟩ := hin p hp
      rcases List.mem_cons.mp a with a' | a'
      · rw [a', ho] at b
        exact .inl (Prod.ext a' (Option.some.inj b).symm)
      · have a'' := List.mem_singleton.mp a'
        have q := (N₁ _ (List.mem_append.mpr (.inl (hl c)))).1
        rw [a''] at b
        exact .inr (Prod.ext a'' (Option.some.inj (b.symm.trans q)))
    have N₂ : News h₀ env.locals h (led c ++ [(s.heap.objs.size, o)]) := News.sub N₁ fun p hp => by
      rcases List.mem_append.mp hp with q | q
      · exact List.mem_append.mpr (.inl q)
      · rw [List.mem_singleton.mp q]; exact List.mem_append.mpr (.inr hIo)
    refine wpAny_mono (turn i v c u h tk _ o (by simpa using hP) hR hne' hit F₁ N₂ _ fun _ _ q => q) (fun f s₂ q => ?_) fun _ _ x => x
    have fin : (∃ c' m' h' tk', s₂ = { s with heap := h', toks := tk' } ∧ Fr h₀ env.locals h' m' ∧ News h₀ env.locals h' (led c' ++ [(s.heap.objs.size, o)]) ∧ (∀ p ∈ led c', p.1 ∈ (led c).map (·.1) ∨ isIt p.2 = false) ∧ Has m' (ps c') ∧ R (i + 1) c') →
        ∃ c' m' h' tk', s₂ = { s with heap := h', toks := tk' } ∧ Fr h₀ env.locals h' m' ∧ News h₀ env.locals h' (led c' ++ own) ∧ (∀ p ∈ led c', p.1 ∉ [s.heap.objs.size]) ∧ Has m' (ps c') ∧ R (i + 1) c' := by
      intro w29q; (refine Uc.ex4 w29q fun c' m' h' tk' => Uc.an6 fun e1q F' N' hn' hk' hR' => ?_; clear w29q; subst e1q)
      refine Uc.ei4 c' m' h' tk' ⟨rfl, F', News.sub N' fun p hp => ?_, fun p hp hm => apart hit hne' N' hn' p hp (List.mem_singleton.mp hm), hk', hR'⟩
      rcases List.mem_append.mp hp with q | q
      · exact List.mem_append.mpr (.inl q)
      · rcases all p q with e | e
        · rw [e]; exact List.mem_append.mpr (.inr (.head _))
        · rw [e]; exact List.mem_append.mpr (.inl (hl c'))
    cases f with
    | ret v => exact q
    | brk => exact q
    | next => exact fin q
    | cont => exact fin q
  · exact fun c u h tk hR F N => done c u h tk (by simpa using hR) F N
noncomputable def GotF (h₀ : Heap) (L : Addr) {σ : Type} (led : σ → Led) (ps : σ → Nms) (P : σ → Prop) (s : Shared) (Q : Flow → Shared → Prop) (f : Flow) (s' : Shared) : Prop := match f with
  | .next => Got h₀ L led ps P s s'
  | f => Q f s'
theorem GotF.mk {h₀ h' : Heap} {L : Addr} {σ : Type} {led : σ → Led} {ps : σ → Nms} {P : σ → Prop} {s : Shared} {Q : Flow → Shared → Prop} {m' : Str → Option Value} {news' : Led} {tk' : Nat} (c' : σ)
    (F : Fr h₀ L h' m') (N : News h₀ L h' news') (hs : ∀ p ∈ led c', p ∈ news') (hk : Has m' (ps c')) (hp : P c') : GotF h₀ L led ps P s Q .next { s with heap := h', toks := tk' } := Uc.ei4 c' m' h' tk' ⟨rfl, F, News.sub N hs, hk, hp⟩
theorem GotF.ret {h₀ : Heap} {L : Addr} {σ : Type} {led : σ → Led} {ps : σ → Nms} {P : σ → Prop} {s s' : Shared} {Q : Flow → Shared → Prop} {v : Value} (h : Q (.ret v) s') : GotF h₀ L led ps P s Q (.ret v) s' := h
theorem execs_join {σ : Type} {L : Addr} {st : Stmt} {rest : List Stmt} {m₀ : Str → Option Value} (F₀ : Fr h₀ L s.heap m₀) (led : σ → Led) (ps : σ → Nms) (P : σ → Prop) (h1 : ∀ Z : Flow → Shared → Prop, Hid (GotF h₀ L led ps P s Q) Z → wpAny (model prog w) A (exec st env) Z E s)
    (h2 : ∀ c u h tk, P c → Fr h₀ L h (fm u (ps c)) → News h₀ L h (led c) → wpAny (model prog w) A (execs rest env) Q E { s with heap := h, toks := tk }) : wpAny (model prog w) A (execs (st :: rest) env) Q E s := by
  refine wpAny_execs_cons (wpAny_mono (h1 _ fun _ _ q => q) (fun f s' q => ?_) fun _ _ x => x)
  cases f with
  | next =>
    (refine Uc.ex4 q fun c' m' h' tk' => Uc.an5 fun e1q F' N' hk' hz => ?_; clear q; subst e1q)
    exact h2 c' m' h' tk' hz (by rw [fm_eq hk']; exact F') N'
  | ret v => exact q
  | brk => exact q
  | cont => exact q
end
theorem intsAre_of (f : Nat → Int) : ∀ (vs : List Value) (k : Nat), (∀ i v, vs[i]? = some v → ∃ t, v = Value.int (f (k + i)) t) → IntsAre vs ((List.range vs.length).map fun i => f (k + i))
  | [], _, _ => .nil
  | v :: vs, k, h => by
    obtain ⟨t, rfl⟩ := h 0 v rfl
    have := intsAre_of f vs (k + 1) fun i v hi => by
      have := h (i + 1) v hi
      rwa [show k + (i + 1) = k + 1 + i by omega] at this
    rw [List.length_cons, List.range_succ_eq_map, List.map_cons, List.map_map]
    refine .cons _ _ ?_
    have e : ((fun i => f (k + i)) ∘ Nat.succ) = fun i => f (k + 1 + i) := by funext i; show f (k + (i + 1)) = _; rw [show k + (i + 1) = k + 1 + i by omega]
    rw [e]
    exact this
section
variable {prog : Program} {w : World} {A : Around} {E : Value → Shared → Prop} {s : Shared} {h₀ : Heap} {L : Addr} {m : Str → Option Value}
theorem list_range_K {r : Addr} {a b c : Int} {t u v : Tok} {n : Nat} {news : Led} {Q : Value → Shared → Prop} (hh : A.handled = none) (F : Fr h₀ L s.heap m) (N : News h₀ L s.heap news)
    (hr : IsRange s.heap r a b c t u v) (hsmall : Builtin.Range.small a b c = true) (hn : Builtin.Range.rangeSize a b c = (n : Int)) (hlen : n ≤ 2 ^ 24)
    (hQ : ∀ h' tk (vs : List Value) cnt l, Fr h₀ L h' m → News h₀ L h' ((l, listOf vs.toArray cnt) :: news) → (∀ p ∈ news, p.1 < l) → vs.length = n → IntsAre vs ((List.range n).map fun (i : Nat) => a + (i : Int) * c) → Q (.ref l) { s with heap := h', toks := tk }) :
    wpAny (model prog w) A (call (.type "list") [.ref r]) Q E s := by
  refine call_list_range hh hr hsmall hn hlen fun h' tk acc c' hk hS hacc => ?_
  have hlen : acc.toList.length = n := by simpa using hacc.1
  refine hQ h' tk acc.toList c' _ (F.keeps hk) (fun p hp => ?_) (fun p hp => Heap.lt_size (N p hp).1) hlen ?_
  · rcases List.mem_cons.mp hp with rfl | hp
    · refine ⟨by simpa using hS, fun e => absurd F.ns.lt (e ▸ Nat.lt_irrefl _), ?_⟩
      cases q : h₀.get? s.heap.objs.size with
      | none => rfl
      | some o' => exact absurd (Heap.lt_size (F.keep _ _ q)) (Nat.lt_irrefl _)
    · exact ⟨hk _ _ (N p hp).1, (N p hp).2⟩
  · have := intsAre_of (fun i => a + (i : Int) * c) acc.toList 0 fun i v hv => by
      have hi : i < n := by
        rw [← hlen]; exact (List.getElem?_eq_some_iff.mp hv).1
      rw [Nat.zero_add]
      exact hacc.2 i v (by simpa using hv)
    rw [hlen] at this
    simpa using this
theorem setL_eq (v : Value) : ∀ (xs : List Value) (k : Nat), k < xs.length → ki_setL xs k v = some (xs.set k v)
  | [], k, h => absurd h (Nat.not_lt_zero _)
  | x :: xs, 0, _ => rfl
  | x :: xs, k + 1, h => by
    rw [ki_setL, setL_eq v xs k (Nat.lt_of_succ_lt_succ h)]
    rfl
theorem set_listH {D : Addr} {n j : Nat} {t : Tok} {v : Value} {vs : List Value} {rest : Led} {Q : Unit → Shared → Prop} (F : Fr h₀ L s.heap m) (N : News h₀ L s.heap ((D, listOf vs.toArray n) :: rest)) (hj : j < vs.length) (hj' : j < 100000000)
    (hne : ∀ p ∈ rest, p.1 ≠ D) (h : ∀ h', Fr h₀ L h' m → News h₀ L h' ((D, listOf (vs.set j v).toArray n) :: rest) → Q () { s with heap := h' }) : wpAny (model prog w) A (setItem (.ref D) (.int (j : Int) t) v) Q E s :=
  ki_set (its := vs.toArray) F N (by omega) (by omega) (by rw [Int.toNat_natCast]; exact setL_eq v vs j hj) (.head hne) h
theorem intsAre_len : ∀ {vs : List Value} {ns : List Int} (_ : IntsAre vs ns), vs.length = ns.length
  | _, _, .nil => rfl
  | _, _, .cons _ _ h => congrArg (· + 1) (intsAre_len h)
theorem intsAre_set (x : Int) (t : Tok) : ∀ {vs : List Value} {ns : List Int} (_ : IntsAre vs ns) (j : Nat), IntsAre (vs.set j (.int x t)) (ns.set j x)
  | _, _, .nil, _ => .nil
  | _, _, .cons n t' h, 0 => .cons x t h
  | _, _, .cons n t' h, j + 1 => .cons n t' (intsAre_set x t h j)
theorem mm (a b : Int) : (if b < a then b else a) = min a b := by rw [Int.min_def]; split <;> split <;> omega
end
end Uc
namespace Uc
noncomputable def stP (M : Model) (A : Around) (rest : List Stmt) (env : Env) (Q : Flow → Shared → Prop) (E : Value → Shared → Prop) : Flow → Shared → Prop := fun f s' => match f with | .next => wpAny M A (execs rest env) Q E s' | f => Q f s'
theorem execs_cons_h {M : Model} {A : Around} {env : Env} {st : Stmt} {rest : List Stmt} {Q : Flow → Shared → Prop} {E : Value → Shared → Prop} {s : Shared}
    (h : ∀ Z : Flow → Shared → Prop, Hid (stP M A rest env Q E) Z → wpAny M A (exec st env) Z E s) : wpAny M A (execs (st :: rest) env) Q E s :=
  wpAny_execs_cons (h _ fun _ _ q => q)
section
variable {M : Model} {A : Around} {env : Env} {rest : List Stmt} {Q Z : Flow → Shared → Prop} {E : Value → Shared → Prop} {s : Shared}
theorem Hid.next (h : Hid (stP M A rest env Q E) Z) (q : wpAny M A (execs rest env) Q E s) : Z .next s := h _ _ q
theorem Hid.ret {v : Value} (h : Hid (stP M A rest env Q E) Z) (q : Q (.ret v) s) : Z (.ret v) s := h _ _ q
theorem Hid.brk (h : Hid (stP M A rest env Q E) Z) (q : Q .brk s) : Z .brk s := h _ _ q
theorem Hid.cont (h : Hid (stP M A rest env Q E) Z) (q : Q .cont s) : Z .cont s := h _ _ q
end
theorem letAE {M : Model} {A : Around} {body : List Stmt} {env : Env} {Q : Flow → Shared → Prop} {E : Value → Shared → Prop} {s : Shared} (h : let AA := A; let EE := env; wpAny M AA (execs body EE) Q E s) : wpAny M A (execs body env) Q E s := h
theorem room3 {n a k b l : Nat} (h : n + a < l) (e : k + b ≤ a) : n + k + b < l := by omega
theorem room2 {n a b l : Nat} (h : n + a < l) (e : b ≤ a) : n + b < l := by omega
end Uc
end
local macro_rules | `(tactic| walk_at "N") => `(tactic| with_reducible first | refine Uc.Hid.next ‹_› ?_ | refine Uc.Hid.ret ‹_› ?_ | refine Uc.Hid.brk ‹_› ?_ | refine Uc.Hid.cont ‹_› ?_)
local macro_rules | `(tactic| walk_at "G") => `(tactic| with_reducible refine Uc.Hid.go ‹_› ?_)
local macro_rules | `(tactic| walk_at "D") => `(tactic| try dsimp only)
local macro_rules | `(tactic| walk_at "T") => `(tactic| first | walk1 | walk_at "N" | (walk_at "G"; walk_at "D") | (dsimp only; walk1) | (leave1; walk_at "D"))
local macro_rules | `(tactic| walk_at "J") => `(tactic| with_reducible refine fun _ (_ : Uc.Hid _ _) => ?_)
local macro_rules | `(tactic| walk_at "P") => `(tactic| first | walk_at "J" | (with_reducible refine fun _ _ (_ : Uc.Hid _ _) (_ : Uc.Hid _ _) => ?_) | (k_unfold; walk_at "D"))
local macro_rules | `(tactic| walk_at "F") => `(tactic| ((fail_if_success (with_reducible show wpAny _ _ (exec (PySem.Stmt.While _ _ _ _) _) _ _ _)); (fail_if_success (with_reducible show wpAny _ _ (pyIter _) _ _ _))))
local macro_rules | `(tactic| walk_at "H") => `(tactic| ((try (walk_at "J")); (try (first | walk_at "N" | (walk_at "G"; walk_at "D")))))
section
namespace Uc
noncomputable def bump (cs : List Int) (b : Nat) : List Int := let l := cs ++ List.replicate (b + 1 - cs.length) 0; l.set b (l.getD b 0 + 1)
structure WS where
  cs : List Int
  b : Nat
  n : Nat
  nt : Nat
noncomputable def wsGo : List Nat → WS → WS
  | [], s => s
  | c :: r, s => if c = 32 then wsGo r ⟨s.cs, s.b + 1, s.n + 1, s.nt⟩ else if c = 9 then wsGo r ⟨bump s.cs s.b, 0, s.n + 1, s.nt + 1⟩ else s
noncomputable def wsOf (x : Str) : WS := wsGo x.cps.toList ⟨[], 0, 0, 0⟩
end Uc
namespace Uc
theorem drop_some {x : Str} {i k : Nat} (h : x.cps[i]? = some k) : x.cps.toList.drop i = k :: x.cps.toList.drop (i + 1) := by
  obtain ⟨hi, e⟩ := Array.getElem?_eq_some_iff.mp h
  have hi' : i < x.cps.toList.length := by simpa using hi
  rw [List.drop_eq_getElem_cons hi']
  congr 1
theorem chr_eq (k c : Nat) : ((⟨#[k]⟩ : Str) == ⟨#[c]⟩) = (k == c) := by
  by_cases h : k = c
  · subst h; simp
  · have : (k == c) = false := by simpa using h
    rw [this, beq_eq_false_iff_ne]
    intro e
    injection e with e
    simp at e
    exact h e
theorem sp_is : Str.ofString " " = ⟨#[32]⟩ := by rfl
theorem tab_is : Str.ofString "\t" = ⟨#[9]⟩ := by rfl
end Uc
end
section
namespace Uc
theorem allLt_ne2 {d e : Addr} {l : List (Addr × Obj)} (h : AllLt d l) (k : @LE.le Nat _ d e) : ∀ q ∈ l, q.1 ≠ e := fun q hq => Nat.ne_of_lt (Nat.lt_of_lt_of_le (allLt_all h q hq) k)
theorem nameLt {l : Addr} {news : List (Addr × Obj)} (h : ∀ p ∈ news, p.1 < l) : ∃ k, k = l ∧ ∀ p ∈ news, p.1 ≠ k := ⟨l, rfl, fun p hp => Nat.ne_of_lt (h p hp)⟩
theorem News.drop1 {h₀ h : Heap} {L : Addr} {a : Addr × Obj} {r : List (Addr × Obj)} (N : News h₀ L h (a :: r)) : News h₀ L h r := fun p hp => N p (.tail _ hp)
theorem nameO {o : Obj} {d d' : Data} (h : o.data = d) (e : d = d') : ∃ k, k = o ∧ k.data = d' := ⟨o, rfl, h.trans e⟩
section
variable {prog : Program} {w : World} {A : Around} {E : Value → Shared → Prop} {s : Shared} {h₀ : Heap} {L : Addr} {m : Str → Option Value}
theorem list_strK {x : Str} {t : Tok} {news : Led} {Q : Value → Shared → Prop} (hh : A.handled = none) (F : Fr h₀ L s.heap m) (N : News h₀ L s.heap news) (hsz : x.length ≤ 100000)
    (hQ : ∀ h' tk (vs : List Value) cnt l, Fr h₀ L h' m → News h₀ L h' ((l, listOf vs.toArray cnt) :: news) → (∀ p ∈ news, p.1 < l) → StrsAre vs (signs x) → Q (.ref l) { s with heap := h', toks := tk }) :
    wpAny (model prog w) A (call (.type "list") [.str x t]) Q E s := by
  refine call_list_str hh x t (hn := Nat.le_trans hsz (by decide)) fun h' tk acc' c' hk hS' hacc => ?_
  have hC : CarriedAll acc'.toList ((signs x).map .str) := carriedAll_of_get _ _ (by simp [hacc.1, signs]) fun j v hv => by
    obtain ⟨c, u, hc, rfl⟩ := hacc.2 j v (by simpa using hv)
    exact ⟨.str ⟨#[c]⟩, by simp [signs, hc], .str _ _⟩
  refine hQ h' tk acc'.toList c' _ (F.keeps hk) (fun p hp => ?_) (fun p hp => Heap.lt_size (N p hp).1) (StrsAre.ofCarried hC)
  rcases List.mem_cons.mp hp with rfl | hp
  · refine ⟨by simpa using hS', fun e => absurd F.ns.lt (e ▸ Nat.lt_irrefl _), ?_⟩
    cases q : h₀.get? s.heap.objs.size with
    | none => rfl
    | some o' => exact absurd (Heap.lt_size (F.keep _ _ q)) (Nat.lt_irrefl _)
  · exact ⟨hk _ _ (N p hp).1, (N p hp).2⟩
theorem ne_nil_ff {l b : Addr} {n n' : Nat} {news : Led} {Q : Value → Shared → Prop} (N : News h₀ L s.heap news) (hl : (l, listOf #[] n) ∈ news) (hb : (b, listOf #[] n') ∈ news) (hu : A.units < cLine) (h : Q (.bool false) s) : wpAny (model prog w) A (compareOp .NotEq (.ref l) (.ref b)) Q E s :=
  cmp_ofNotEq (PySem.SeqAt.RcNeAt.lists (e := fun _ => true) ⟨_, (N _ hl).1, rfl, n, rfl⟩ ⟨_, (N _ hb).1, rfl, n', rfl⟩ rfl hu (fun j h1 _ => absurd h1 (Nat.not_lt_zero _)) prog w E Q h)
theorem ne_nil_tt {l b : Addr} {v : Value} {vs : List Value} {n n' : Nat} {news : Led} {Q : Value → Shared → Prop} (N : News h₀ L s.heap news) (hl : (l, listOf (v :: vs).toArray n) ∈ news) (hb : (b, listOf #[] n') ∈ news) (hu : A.units < cLine) (h : Q (.bool true) s) : wpAny (model prog w) A (compareOp .NotEq (.ref l) (.ref b)) Q E s :=
  cmp_ofNotEq (PySem.SeqAt.RcNeAt.lists_lengths ⟨_, (N _ hl).1, rfl, n, rfl⟩ ⟨_, (N _ hb).1, rfl, n', rfl⟩ (by simp) hu prog w E Q h)
theorem m_r {a b : Int} (h : b < a) : min a b = b := Int.min_eq_right (Int.le_of_lt h)
theorem m_l {a b : Int} (h : ¬ b < a) : min a b = a := Int.min_eq_left (Int.not_lt.mp h)
theorem min3_K {a b c : Int} {t u x : Tok} {news : Led} {Q : Value → Shared → Prop} (hh : A.handled = none) (F : Fr h₀ L s.heap m) (N : News h₀ L s.heap news)
    (h : ∀ h' tk v, Fr h₀ L h' m → News h₀ L h' news → Q (.int (min (min a b) c) v) { s with heap := h', toks := tk }) : wpAny (model prog w) A (call (.builtin "min") [.int a t, .int b u, .int c x]) Q E s := by
  refine min_three_ints hh fun h' tk hk => ?_
  have F' := F.keeps hk
  have N' : News h₀ L h' news := fun p hp => ⟨hk _ _ (N p hp).1, (N p hp).2⟩
  have key := fun v => h h' tk v F' N'
  by_cases h1 : b < a <;> by_cases h2 : c < b <;> by_cases h3 : c < a <;> simp only [h1, h2, h3, if_true, if_false]
  · rw [m_r h1, m_r h2] at key; exact key _
  · rw [m_r h1, m_r h2] at key; exact key _
  · rw [m_r h1, m_l h2] at key; exact key _
  · rw [m_r h1, m_l h2] at key; exact key _
  · rw [m_l h1, m_r h3] at key; exact key _
  · rw [m_l h1, m_l h3] at key; exact key _
  · rw [m_l h1, m_r h3] at key; exact key _
  · rw [m_l h1, m_l h3] at key; exact key _
theorem insert0 {D : Addr} {u : Tok} {y : Value} {l : List Value} {n : Nat} {news news' : Led} {Q : Value → Shared → Prop} (F : Fr h₀ L s.heap m) (N : News h₀ L s.heap news) (U : Upd D (listOf l.toArray n) (listOf (y :: l).toArray (n + 1)) news news') (hz : l.length ≤ 10000)
    (h : ∀ h', Fr h₀ L h' m → News h₀ L h' news' → Q .none { s with heap := h' }) : wpAny (model prog w) A (call (.builtin "list.insert") [.ref D, .int 0 u, y]) Q E s :=
  kl_insert F N rfl (by unfold kl_ins; simp) U (Nat.le_trans hz (by decide)) h
end
end Uc
end
local macro_rules | `(tactic| walk_at "execs cons") => `(tactic| (refine Uc.execs_cons_h ?_; intro _ _))
local macro_rules | `(tactic| walk_at "execs cons") => `(tactic| (dsimp only; k_gentoks))
local macro_rules | `(tactic| walk_at "execs nil") => `(tactic| (dsimp only; k_gentoks))
local macro_rules | `(tactic| k_all) => `(tactic| first | with_reducible assumption | exact Uc.allLt_ne2 ‹_› (by omega))
section
namespace Uc
open PySem.Calls
/-! pure expressions over a frame's names, in one step -/
set_option genInjectivity false in
set_option genSizeOf false in
inductive PV where
  | int (i : Int) | str (x : Str) | bool (b : Bool) | none | val (v : Value)
noncomputable def PV.den (t : Tok) : PV → Value
  | .int i => .int i t
  | .str x => .str x t
  | .bool b => .bool b
  | .none => .none
  | .val v => v
noncomputable def toPV : Value → PV
  | .int i _ => .int i
  | .str x _ => .str x
  | .bool b => .bool b
  | .none => .none
  | v => .val v
theorem toPV_den (v : Value) : ∃ t, (toPV v).den t = v := by
  cases v <;> first | exact ⟨0, rfl⟩ | exact ⟨_, rfl⟩
set_option genInjectivity false in
set_option genSizeOf false in
inductive Rs where | bad | ok (v : PV) | cond (c : Prop) (v : PV)
set_option genInjectivity false in
set_option genSizeOf false in
inductive Bs where | bad | ok (p : Prop) | cond (c p : Prop)
set_option genInjectivity false in
set_option genSizeOf false in
inductive Hs where | bad | ok (h : Option Int) | cond (c : Prop) (h : Option Int)
noncomputable def Rs.holds (k : PV → Prop) : Rs → Prop
  | .bad => False
  | .ok v => k v
  | .cond c v => c ∧ k v
noncomputable def Bs.holds (k : Prop → Prop) : Bs → Prop
  | .bad => False
  | .ok v => k v
  | .cond c v => c ∧ k v
noncomputable def Hs.holds (k : Option Int → Prop) : Hs → Prop
  | .bad => False
  | .ok v => k v
  | .cond c v => c ∧ k v
theorem Rs.mono {k k' : PV → Prop} (h : ∀ v, k v → k' v) : ∀ {r : Rs}, r.holds k → r.holds k'
  | .ok _, q => h _ q
  | .cond _ _, q => ⟨q.1, h _ q.2⟩
theorem Bs.mono {k k' : Prop → Prop} (h : ∀ v, k v → k' v) : ∀ {r : Bs}, r.holds k → r.holds k'
  | .ok _, q => h _ q
  | .cond _ _, q => ⟨q.1, h _ q.2⟩
theorem Hs.mono {k k' : Option Int → Prop} (h : ∀ v, k v → k' v) : ∀ {r : Hs}, r.holds k → r.holds k'
  | .ok _, q => h _ q
  | .cond _ _, q => ⟨q.1, h _ q.2⟩
noncomputable def Rs.and (c : Prop) : Rs → Rs
  | .bad => .bad
  | .ok v => .cond c v
  | .cond d v => .cond (c ∧ d) v
noncomputable def Bs.and (c : Prop) : Bs → Bs
  | .bad => .bad
  | .ok v => .cond c v
  | .cond d v => .cond (c ∧ d) v
noncomputable def Hs.and (c : Prop) : Hs → Hs
  | .bad => .bad
  | .ok v => .cond c v
  | .cond d v => .cond (c ∧ d) v
theorem Hs.and_h {c : Prop} {k : Option Int → Prop} : ∀ {r : Hs}, (r.and c).holds k → c ∧ r.holds k
  | .ok _, q => q
  | .cond _ _, q => ⟨q.1.1, q.1.2, q.2⟩
theorem Rs.and_h {c : Prop} {k : PV → Prop} : ∀ {r : Rs}, (r.and c).holds k → c ∧ r.holds k
  | .ok _, q => q
  | .cond _ _, q => ⟨q.1.1, q.1.2, q.2⟩
theorem Bs.and_h {c : Prop} {k : Prop → Prop} : ∀ {r : Bs}, (r.and c).holds k → c ∧ r.holds k
  | .ok _, q => q
  | .cond _ _, q => ⟨q.1.1, q.1.2, q.2⟩
noncomputable def bin2 (f : PV → PV → Rs) : Rs → Rs → Rs
  | .ok a, .ok b => f a b
  | .ok a, .cond c b => (f a b).and c
  | .cond c a, .ok b => (f a b).and c
  | .cond c a, .cond d b => (f a b).and (c ∧ d)
  | _, _ => .bad
noncomputable def bin2B (f : PV → PV → Bs) : Rs → Rs → Bs
  | .ok a, .ok b => f a b
  | .ok a, .cond c b => (f a b).and c
  | .cond c a, .ok b => (f a b).and c
  | .cond c a, .cond d b => (f a b).and (c ∧ d)
  | _, _ => .bad
theorem bin2_h {f : PV → PV → Rs} {k : PV → Prop} {a b : Rs} (q : (bin2 f a b).holds k) : a.holds fun x => b.holds fun y => (f x y).holds k := by
  cases a <;> cases b <;> first | exact q.elim | skip
  · exact q
  · exact Rs.and_h q
  · exact Rs.and_h (r := f _ _) q
  · exact ⟨(Rs.and_h q).1.1, (Rs.and_h q).1.2, (Rs.and_h q).2⟩
theorem bin2B_h {f : PV → PV → Bs} {k : Prop → Prop} {a b : Rs} (q : (bin2B f a b).holds k) : a.holds fun x => b.holds fun y => (f x y).holds k := by
  cases a <;> cases b <;> first | exact q.elim | skip
  · exact q
  · exact Bs.and_h q
  · exact Bs.and_h (r := f _ _) q
  · exact ⟨(Bs.and_h q).1.1, (Bs.and_h q).1.2, (Bs.and_h q).2⟩
noncomputable def pBin (op : Operator) : PV → PV → Rs
  | .int a, .int b => (match op with
    | .Add => .ok (.int (a + b))
    | .Sub => .ok (.int (a - b))
    | .Mult => .cond (-1000000000 ≤ a ∧ a ≤ 1000000000) (.int (a * b))
    | .FloorDiv => .cond (1 ≤ b ∧ b ≤ 1000000000) (.int (a.fdiv b))
    | .Mod => .cond (1 ≤ b ∧ b ≤ 1000000000) (.int (a.fmod b))
    | _ => .bad)
  | .str x, .str y => (match op with
    | .Add => .cond (x.length + y.length ≤ 16777216) (.str (x ++ y))
    | _ => .bad)
  | .str x, .int i => (match op with
    | .Mult => .cond (x.length ≤ 16 ∧ 0 ≤ i ∧ i ≤ 1048576) (.str (Txt.mul x i))
    | _ => .bad)
  | _, _ => .bad
noncomputable def pCmp (op : CmpOp) : PV → PV → Bs
  | .int a, .int b => (match op with
    | .Eq => .ok (a = b)
    | .NotEq => .ok (¬ a = b)
    | .Lt => .ok (a < b)
    | .LtE => .ok (a ≤ b)
    | .Gt => .ok (b < a)
    | .GtE => .ok (b ≤ a)
    | _ => .bad)
  | .str x, .str y => (match op with
    | .Eq => .ok (x = y)
    | .NotEq => .ok (¬ x = y)
    | .In => .ok ((Builtin.Str.occurrences y x 0 y.length 1).isEmpty = false)
    | _ => .bad)
  | _, _ => .bad
noncomputable def pTru : PV → Bs
  | .int a => .ok (¬ a = 0)
  | .str x => .cond (x.length ≤ 16777216) (0 < x.length)
  | .bool b => .ok (b = true)
  | .none => .ok False
  | _ => .bad
noncomputable def truB : Rs → Bs
  | .bad => .bad
  | .ok v => pTru v
  | .cond c v => (pTru v).and c
noncomputable def notB : Bs → Bs
  | .bad => .bad
  | .ok p => .ok (¬ p)
  | .cond c p => .cond c (¬ p)
noncomputable def andB : Bs → Bs → Bs
  | .ok p, .ok q => .ok (p ∧ q)
  | .ok p, .cond c q => .cond (p → c) (p ∧ q)
  | .cond c p, .ok q => .cond c (p ∧ q)
  | .cond c p, .cond d q => .cond (c ∧ (p → d)) (p ∧ q)
  | _, _ => .bad
noncomputable def orB : Bs → Bs → Bs
  | .ok p, .ok q => .ok (p ∨ q)
  | .ok p, .cond c q => .cond (¬ p → c) (p ∨ q)
  | .cond c p, .ok q => .cond c (p ∨ q)
  | .cond c p, .cond d q => .cond (c ∧ (¬ p → d)) (p ∨ q)
  | _, _ => .bad
theorem truB_h {k : Prop → Prop} : ∀ {a : Rs}, (truB a).holds k → a.holds fun x => (pTru x).holds k
  | .ok _, q => q
  | .cond _ _, q => Bs.and_h q
theorem notB_h {k : Prop → Prop} : ∀ {a : Bs}, (notB a).holds k → a.holds fun x => k (¬ x)
  | .ok _, q => q
  | .cond _ _, q => q
theorem andB_h {k : Prop → Prop} {a b : Bs} (q : (andB a b).holds k) : a.holds fun p => (p → b.holds fun q => k (p ∧ q)) ∧ ∃ q, k (p ∧ q) := by
  cases a <;> cases b <;> first | exact q.elim | skip
  · exact ⟨fun _ => q, _, q⟩
  · exact ⟨fun h => ⟨q.1 h, q.2⟩, _, q.2⟩
  · exact ⟨q.1, fun _ => q.2, _, q.2⟩
  · exact ⟨q.1.1, fun h => ⟨q.1.2 h, q.2⟩, _, q.2⟩
theorem orB_h {k : Prop → Prop} {a b : Bs} (q : (orB a b).holds k) : a.holds fun p => (¬ p → b.holds fun q => k (p ∨ q)) ∧ ∃ q, k (p ∨ q) := by
  cases a <;> cases b <;> first | exact q.elim | skip
  · exact ⟨fun _ => q, _, q⟩
  · exact ⟨fun h => ⟨q.1 h, q.2⟩, _, q.2⟩
  · exact ⟨q.1, fun _ => q.2, _, q.2⟩
  · exact ⟨q.1.1, fun h => ⟨q.1.2 h, q.2⟩, _, q.2⟩
noncomputable def iteV (p : Prop) : PV → PV → Rs
  | .int a, .int b => .ok (.int (@ite Int p (Classical.propDecidable p) a b))
  | .str a, .str b => .ok (.str (@ite Str p (Classical.propDecidable p) a b))
  | _, _ => .bad
noncomputable def iteR (p : Prop) : Rs → Rs → Rs
  | .ok a, .ok b => iteV p a b
  | .ok a, .cond c b => (iteV p a b).and (¬ p → c)
  | .cond c a, .ok b => (iteV p a b).and (p → c)
  | .cond c a, .cond d b => (iteV p a b).and ((p → c) ∧ (¬ p → d))
  | _, _ => .bad
noncomputable def rIte : Bs → Rs → Rs → Rs
  | .bad, _, _ => .bad
  | .ok p, a, b => iteR p a b
  | .cond c p, a, b => (iteR p a b).and c
theorem iteV_h {p : Prop} {k : PV → Prop} {a b : PV} (q : (iteV p a b).holds k) : (p → k a) ∧ (¬ p → k b) := by
  cases a <;> cases b <;> first | exact q.elim | skip
  all_goals
    have q' : k _ := q
    exact ⟨fun h => by rwa [if_pos h] at q', fun h => by rwa [if_neg h] at q'⟩
theorem iteR_h {p : Prop} {k : PV → Prop} {a b : Rs} (q : (iteR p a b).holds k) : (p → a.holds k) ∧ (¬ p → b.holds k) := by
  cases a <;> cases b <;> first | exact q.elim | skip
  · exact iteV_h q
  · exact ⟨(iteV_h (Rs.and_h q).2).1, fun h => ⟨(Rs.and_h q).1 h, (iteV_h (Rs.and_h q).2).2 h⟩⟩
  · exact ⟨fun h => ⟨(Rs.and_h q).1 h, (iteV_h (Rs.and_h q).2).1 h⟩, (iteV_h (Rs.and_h q).2).2⟩
  · exact ⟨fun h => ⟨(Rs.and_h q).1.1 h, (iteV_h (Rs.and_h q).2).1 h⟩, fun h => ⟨(Rs.and_h q).1.2 h, (iteV_h (Rs.and_h q).2).2 h⟩⟩
theorem rIte_h {k : PV → Prop} {t : Bs} {a b : Rs} (q : (rIte t a b).holds k) : t.holds fun p => (p → a.holds k) ∧ (¬ p → b.holds k) := by
  cases t with
  | bad => exact q.elim
  | ok p => exact iteR_h q
  | cond c p => exact ⟨(Rs.and_h q).1, iteR_h (Rs.and_h q).2⟩
noncomputable def rName : Option Value → Rs
  | some v => .ok (toPV v)
  | none => .bad
noncomputable def rConst : Const → Rs
  | .int i => .ok (.int i)
  | .str x => .ok (.str x)
  | .none => .ok .none
  | .bool b => .ok (.bool b)
  | _ => .bad
noncomputable def pNeg : PV → Rs
  | .int a => .ok (.int (-a))
  | _ => .bad
noncomputable def un1 (f : PV → Rs) : Rs → Rs
  | .bad => .bad
  | .ok a => f a
  | .cond c a => (f a).and c
theorem un1_h {f : PV → Rs} {k : PV → Prop} : ∀ {a : Rs}, (un1 f a).holds k → a.holds fun x => (f x).holds k
  | .ok _, q => q
  | .cond _ _, q => Rs.and_h q
noncomputable def pItem : PV → PV → Rs
  | .str x, .int i => .cond (x.length ≤ 16777216 ∧ -(x.length : Int) ≤ i ∧ i < (x.length : Int)) (.str (Txt.item x i))
  | _, _ => .bad
noncomputable def pSl : PV → Option Int → Option Int → Rs
  | .str x, lo, hi => .cond (x.length ≤ 16777216) (.str (Txt.slice x lo hi))
  | _, _, _ => .bad
noncomputable def rSl (v : PV) : Hs → Hs → Rs
  | .ok a, .ok b => pSl v a b
  | .ok a, .cond c b => (pSl v a b).and c
  | .cond c a, .ok b => (pSl v a b).and c
  | .cond c a, .cond d b => (pSl v a b).and (c ∧ d)
  | _, _ => .bad
theorem rSl_h {v : PV} {k : PV → Prop} {a b : Hs} (q : (rSl v a b).holds k) : a.holds fun x => b.holds fun y => (pSl v x y).holds k := by
  cases a <;> cases b <;> first | exact q.elim | skip
  · exact q
  · exact Rs.and_h q
  · exact Rs.and_h (r := pSl _ _ _) q
  · exact ⟨(Rs.and_h q).1.1, (Rs.and_h q).1.2, (Rs.and_h q).2⟩
noncomputable def pBd : PV → Hs
  | .int i => .ok (some i)
  | .none => .ok none
  | _ => .bad
noncomputable def bdR (f : PV → Hs) : Rs → Hs
  | .bad => .bad
  | .ok v => f v
  | .cond c v => (f v).and c
theorem bdR_h {f : PV → Hs} {k : Option Int → Prop} : ∀ {a : Rs}, (bdR f a).holds k → a.holds fun x => (f x).holds k
  | .ok _, q => q
  | .cond _ _, q => Hs.and_h q
noncomputable def pOrN : PV → PV → Hs
  | .int i, .none => .ok (if i = 0 then none else some i)
  | _, _ => .bad
noncomputable def orN (a b : Rs) : Hs := match b with
  | .ok v => bdR (fun x => pOrN x v) a
  | _ => .bad
theorem orN_h {k : Option Int → Prop} {a b : Rs} (q : (orN a b).holds k) : ∃ v, b = .ok v ∧ a.holds fun x => (pOrN x v).holds k := by
  cases b with
  | ok v => exact ⟨v, rfl, bdR_h q⟩
  | bad => exact q.elim
  | cond c v => exact q.elim
noncomputable def call1 (id : String) : PV → Rs
  | .str x => if id = "len" then .cond (x.length ≤ 16777216) (.int x.length) else if id = "ord" then .cond (x.length = 1) (.int (x.cps.getD 0 0)) else .bad
  | .int i => if id = "chr" then .cond (0 ≤ i ∧ i ≤ 1114111) (.str ⟨#[i.toNat]⟩) else .bad
  | _ => .bad
noncomputable def call2 (id : String) : PV → PV → Rs
  | .int a, .int b => if id = "min" then .ok (.int (min a b)) else if id = "max" then .ok (.int (max a b)) else .bad
  | _, _ => .bad
noncomputable def callB2 (id : String) (x y : PV) : List PV → Rs
  | [] => call2 id x y
  | _ :: _ => .bad
noncomputable def callB1 (id : String) (x : PV) : List PV → Rs
  | [] => call1 id x
  | y :: r => callB2 id x y r
noncomputable def callB (id : String) : List PV → Rs
  | [] => .bad
  | x :: r => callB1 id x r
noncomputable def seqR : List Rs → (List PV → Rs) → Rs
  | [], f => f []
  | a :: r, f => un1 (fun v => seqR r fun vs => f (v :: vs)) a
noncomputable def plainArg : PySem.Expr → Bool
  | .Starred _ _ => false
  | _ => true
set_option genInjectivity false in
set_option genSizeOf false in
inductive EV where
  | name (x : Str) | const (c : Const) | bin (l : PySem.Expr) (op : Operator) (r : PySem.Expr) | neg (x : PySem.Expr) | ite (t b o : PySem.Expr)
  | slice (v : PySem.Expr) (lo hi : Option PySem.Expr) | item (v i : PySem.Expr) | nitem (x : Str) (i : PySem.Expr) | call (f : Str) (x : PySem.Expr) (xs : List PySem.Expr) | attr (x a : Str) | bad
noncomputable def unView (x : PySem.Expr) : UnaryOp → EV
  | .USub => .neg x
  | _ => .bad
noncomputable def plainIdx : PySem.Expr → Bool
  | .Name _ _ => true
  | .BinOp _ _ _ _ => true
  | .Constant _ _ _ => true
  | _ => false
noncomputable def slView (v : PySem.Expr) (lo hi : Option PySem.Expr) : Option PySem.Expr → EV
  | none => .slice v lo hi
  | some _ => .bad
noncomputable def itView (i : PySem.Expr) : PySem.Expr → EV
  | .Name x _ => .nitem x i
  | v => .item v i
noncomputable def subView (v : PySem.Expr) : PySem.Expr → EV
  | .Slice lo hi st _ => slView v lo hi st
  | s => if plainIdx s then itView s v else .bad
noncomputable def cArgs (x : Str) : List PySem.Expr → EV
  | [] => .bad
  | y :: ys => if plainArg y && ys.all plainArg then .call x y ys else .bad
noncomputable def cName (xs : List PySem.Expr) : PySem.Expr → EV
  | .Name x _ => cArgs x xs
  | _ => .bad
noncomputable def cView (f : PySem.Expr) (xs : List PySem.Expr) : List Keyword → EV
  | [] => cName xs f
  | _ :: _ => .bad
noncomputable def atView (a : Str) : PySem.Expr → EV
  | .Name x _ => .attr x a
  | _ => .bad
noncomputable def eview : PySem.Expr → EV
  | .Name x _ => .name x
  | .Constant c _ _ => .const c
  | .BinOp l op r _ => .bin l op r
  | .UnaryOp op x _ => unView x op
  | .IfExp t b o _ => .ite t b o
  | .Subscript v s _ => subView v s
  | .Call f xs ks _ => cView f xs ks
  | .Attribute v a _ => atView a v
  | _ => .bad
set_option genInjectivity false in
set_option genSizeOf false in
inductive BV where
  | cmp (l : PySem.Expr) (op : CmpOp) (r : PySem.Expr) | one (x : PySem.Expr) | and (x r : PySem.Expr) | or (x r : PySem.Expr) | not (x : PySem.Expr) | plain | bad
noncomputable def cmp3 (l : PySem.Expr) (op : CmpOp) (r : PySem.Expr) : List PySem.Expr → BV
  | [] => if behindInMarks op r then .bad else .cmp l op r
  | _ :: _ => .bad
noncomputable def cmp2 (l : PySem.Expr) (op : CmpOp) : List PySem.Expr → BV
  | [] => .bad
  | r :: rs => cmp3 l op r rs
noncomputable def cmp1 (l : PySem.Expr) (rs : List PySem.Expr) (op : CmpOp) : List CmpOp → BV
  | [] => cmp2 l op rs
  | _ :: _ => .bad
noncomputable def cmp0 (l : PySem.Expr) (rs : List PySem.Expr) : List CmpOp → BV
  | [] => .bad
  | op :: os => cmp1 l rs op os
noncomputable def bo1 (op : BoolOp) (p : Pos) (x : PySem.Expr) : List PySem.Expr → BV
  | [] => .one x
  | y :: r => (match op with | .And => .and x (.BoolOp .And (y :: r) p) | .Or => .or x (.BoolOp .Or (y :: r) p))
noncomputable def bo0 (op : BoolOp) (p : Pos) : List PySem.Expr → BV
  | [] => .bad
  | x :: r => bo1 op p x r
noncomputable def bview : PySem.Expr → BV
  | .Compare l ops rs _ => cmp0 l rs ops
  | .BoolOp op xs p => bo0 op p xs
  | .UnaryOp op x _ => (match op with | .Not => .not x | _ => .bad)
  | .Name _ _ => .plain
  | .BinOp _ _ _ _ => .plain
  | .Subscript _ _ _ => .plain
  | .Call _ _ _ _ => .plain
  | .Attribute _ _ _ => .plain
  | _ => .bad
set_option genInjectivity false in
set_option genSizeOf false in
inductive HV where | or (a b : PySem.Expr) | plain
noncomputable def hv2 (a b : PySem.Expr) : List PySem.Expr → HV
  | [] => .or a b
  | _ :: _ => .plain
noncomputable def hv1 (a : PySem.Expr) : List PySem.Expr → HV
  | [] => .plain
  | b :: r => hv2 a b r
noncomputable def hv0 : List PySem.Expr → HV
  | [] => .plain
  | a :: r => hv1 a r
noncomputable def hview : PySem.Expr → HV
  | .BoolOp op xs _ => (match op with | .Or => hv0 xs | .And => .plain)
  | _ => .plain
set_option genInjectivity false in
set_option genSizeOf false in
structure Tb where
  gl : List (Str × Value)
  il : List (Str × List Int) := []
  ats : List ((Str × Str) × Value) := []
  fo : List (Str × (List PV → Rs)) := []
  nm : List (Str × Value) := []
section
variable (env : Env) (m : Str → Option Value) (tb : Tb)
noncomputable def pNm (x : Str) : Option Value := if x == Str.ofString "__debug__" then none else match env.kindOf x with
  | some .local => m x
  | some .globalImplicit => tb.gl.lookup x
  | some .cell => tb.nm.lookup x
  | _ => none
noncomputable def isB : Option Value → Option String
  | some (.builtin id) => some id
  | _ => none
noncomputable def pItemI (ns : List Int) : PV → Rs
  | .int k => .cond (ns.length ≤ 1000000 ∧ 0 ≤ k ∧ k < (ns.length : Int)) (.int (ns.getD k.toNat 0))
  | _ => .bad
noncomputable def rFo : Option (List PV → Rs) → List Rs → Rs
  | some f, r => seqR r f
  | none, _ => .bad
noncomputable def lenI (tb : Tb) : PySem.Expr → Option (List Int)
  | .Name x _ => tb.il.lookup x
  | _ => none
noncomputable def rLen (ns : List Int) : Rs := .cond (ns.length ≤ 16384) (.int ns.length)
mutual
noncomputable def pV : Nat → PySem.Expr → Rs
  | 0, _ => .bad
  | n + 1, e => match eview e with
    | .name x => rName (pNm env m tb x)
    | .const c => rConst c
    | .bin l op r => bin2 (pBin op) (pV n l) (pV n r)
    | .neg x => un1 pNeg (pV n x)
    | .ite t b o => rIte (pB n t) (pV n b) (pV n o)
    | .slice v lo hi => un1 (fun x => rSl x (pH n lo) (pH n hi)) (pV n v)
    | .item v i => bin2 pItem (pV n v) (pV n i)
    | .nitem x i => (match tb.il.lookup x with
      | some ns => un1 (pItemI ns) (pV n i)
      | none => bin2 pItem (rName (pNm env m tb x)) (pV n i))
    | .call f x xs => (match isB (pNm env m tb f) with
      | some id => (match id == "len" && xs.isEmpty, lenI tb x with
        | true, some ns => rLen ns
        | _, _ => seqR (pV n x :: xs.map (pV n)) (callB id))
      | none => rFo (tb.fo.lookup f) (pV n x :: xs.map (pV n)))
    | .attr x a => rName (tb.ats.lookup (x, a))
    | .bad => .bad
noncomputable def pB : Nat → PySem.Expr → Bs
  | 0, _ => .bad
  | n + 1, e => match bview e with
    | .cmp l op r => bin2B (pCmp op) (pV n l) (pV n r)
    | .one x => pB n x
    | .and x r => andB (pB n x) (pB n r)
    | .or x r => orB (pB n x) (pB n r)
    | .not x => notB (pB n x)
    | .plain => truB (pV n e)
    | .bad => .bad
noncomputable def pH : Nat → Option PySem.Expr → Hs
  | 0, _ => .bad
  | _ + 1, none => .ok none
  | n + 1, some e => match hview e with
    | .or a b => orN (pV n a) (pV n b)
    | .plain => bdR pBd (pV n e)
end
end
section
variable {prog : Program} {w : World} {A : Around} {E : Value → Shared → Prop} {s : Shared} {h₀ : Heap} {L a : Addr} {cn : Str} {cs : Scope} {cd : Value} {cl : List (Str × Addr)} {news : Led} {m : Str → Option Value} {gl : List (Str × Value)}
noncomputable def GlOk (prog : Program) (w : World) (h₀ : Heap) (gl : List (Str × Value)) : Prop :=
  ∀ x v, gl.lookup x = some v → ∀ (A : Around) (E : Value → Shared → Prop) (L a : Addr) (cn : Str) (cs : Scope) (cd : Value) (cl : List (Str × Addr)) (m : Str → Option Value) (s : Shared) (Q : Value → Shared → Prop) (pos : Pos),
    cs.kind = .function → (envX cn cs L a cd cl).kindOf x = some .globalImplicit → (x == Str.ofString "__debug__") = false → Fr h₀ L s.heap m → Q v s → wpAny (model prog w) A (eval (.Name x pos) (envX cn cs L a cd cl)) Q E s
theorem binop_ok {op : Operator} {x y : PV} {t u : Tok} {Q : Value → Shared → Prop} (q : (pBin op x y).holds fun v => ∀ tk t, Q (v.den t) { s with toks := tk }) :
    wpAny (model prog w) A (binaryOp op (x.den t) (y.den u)) Q E s := by
  cases x <;> cases y <;> try exact q.elim
  case int.int i j =>
    cases op <;> try exact q.elim
    · exact add_int (q _ _)
    · exact sub_int (q _ _)
    · exact mul_int (q.2 _ _) (IntMulOk.of_left (intBits_le_64 (by have := q.1; omega) (by have := q.1; omega)))
    · exact mod_int' (by have := q.1; omega) (q.2 _ _)
    · exact floordiv_int (by have := q.1; omega) (q.2 _ _) (.inl (PyProof.noPylong_small (by have := q.1; omega)))
  case str.int i j =>
    cases op <;> try exact q.elim
    exact KXi.mul rfl q.1.1 (by have := q.1; omega) (by have := q.1; omega) fun t' k _ _ => q.2 _ _
  case str.str i j =>
    cases op <;> try exact q.elim
    exact SB.add (fun t' k => q.2 _ _) q.1
theorem iop_ok {op : Operator} {x y : PV} {t u : Tok} {Q : Value → Shared → Prop} (ho : op = .Add ∨ op = .Sub) (q : (pBin op x y).holds fun v => ∀ tk t, Q (v.den t) { s with toks := tk }) :
    wpAny (model prog w) A (inplaceOp op (x.den t) (y.den u)) Q E s := by
  cases x <;> cases y <;> try exact q.elim
  case int.int i j =>
    rcases ho with rfl | rfl
    · exact iadd_int (q _ _)
    · exact isub_int (q _ _)
  case str.int i j =>
    rcases ho with rfl | rfl <;> exact q.elim
  case str.str i j =>
    rcases ho with rfl | rfl
    · exact SB.iadd (fun t' k => q.2 _ _) q.1
    · exact q.elim
theorem cmp_ok {op : CmpOp} {x y : PV} {t u : Tok} {Q : Value → Shared → Prop} (q : (pCmp op x y).holds fun p => ∀ b, (b = true ↔ p) → Q (.bool b) s) :
    wpAny (model prog w) A (compareOp op (x.den t) (y.den u)) Q E s := by
  cases x <;> cases y <;> try exact q.elim
  case int.int i j =>
    cases op <;> try exact q.elim
    · exact eq_int (q _ beq_iff_eq)
    · exact ne_int (q _ bne_iff_ne)
    · exact lt_int (q _ decide_eq_true_iff)
    · exact le_int (q _ decide_eq_true_iff)
    · exact gt_int (q _ decide_eq_true_iff)
    · exact ge_int (q _ decide_eq_true_iff)
  case str.str i j =>
    cases op <;> try exact q.elim
    · exact eq_str (q _ beq_iff_eq)
    · exact ne_str (q _ bne_iff_ne)
    · exact in_str (q _ (by rw [Bool.not_eq_true']))
theorem tru_ok {x : PV} {t : Tok} {Q : Bool → Shared → Prop} (q : (pTru x).holds fun p => ∀ b tk, (b = true ↔ p) → Q b { s with toks := tk }) :
    wpAny (model prog w) A (truthy (x.den t)) Q E s := by
  cases x <;> try exact q.elim
  case int i => exact truthy_int (q _ s.toks bne_iff_ne)
  case str x =>
    have := q.1
    exact SBL.truthy (by omega) (q.2 _ _ (by rw [bne_iff_ne]; omega))
  case bool b => exact wpAny_truthy_bool (q b s.toks Iff.rfl)
  case none => exact truthy_none (q false s.toks (by simp))
theorem let_str (v : PySem.Expr) (x : Str) (t : Tok) (r : Value) : letTemporaryGo v (.str x t) r = pure () := by cases v <;> rfl
theorem item_ok {v i : PySem.Expr} {x y : PV} {t u : Tok} {Q : Value → Shared → Prop} (hs : ∀ o j, subscripted i false o j = operate [o, j] (getItem o j))
    (q : (pItem x y).holds fun v => ∀ tk t, Q (v.den t) { s with toks := tk }) : wpAny (model prog w) A (subscriptTail v i (x.den t) (y.den u)) Q E s := by
  cases x <;> cases y <;> try exact q.elim
  case str.int x j =>
    have := q.1
    exact item_str (fitsSsize_of (N := 9223372036854775807) (by omega) (by omega) (by omega)) this.2.1 this.2.2 (fun _ => q.2 _ _) (hs _ _) (let_str _ _ _)
theorem call1_ok {id : String} {x : PV} {t : Tok} {Q : Value → Shared → Prop} (q : (call1 id x).holds fun v => ∀ tk t, Q (v.den t) { s with toks := tk }) : wpAny (model prog w) A (call (.builtin id) [x.den t]) Q E s := by
  cases x <;> try exact q.elim
  case str x =>
    unfold call1 at q
    dsimp only at q
    split at q
    · rename_i e; subst e
      have := q.1
      exact P.len_str (by omega) (q.2 _ _)
    · split at q
      · rename_i e; subst e
        exact ord_of_one q.1 (q.2 _ _)
      · exact q.elim
  case int i =>
    unfold call1 at q
    dsimp only at q
    split at q
    · rename_i e; subst e
      exact chr_of_range q.1.1 q.1.2 (q.2 _ _)
    · exact q.elim
theorem call2_ok {id : String} {x y : PV} {t u : Tok} {Q : Value → Shared → Prop} (hh : A.handled = none) (F : Fr h₀ L s.heap m) (N : News h₀ L s.heap news)
    (q : (call2 id x y).holds fun v => ∀ h' tk t, Fr h₀ L h' m → News h₀ L h' news → Q (v.den t) { s with heap := h', toks := tk }) : wpAny (model prog w) A (call (.builtin id) [x.den t, y.den u]) Q E s := by
  cases x <;> cases y <;> try exact q.elim
  case int.int i j =>
    unfold call2 at q
    dsimp only at q
    split at q
    · rename_i e; subst e
      refine min_two_N hh F N fun h' tk F' N' => ?_
      rw [mm]
      exact q _ _ _ F' N'
    · split at q
      · rename_i e; subst e
        refine max_two_N hh F N fun h' tk F' N' => ?_
        rw [show (if j > i then j else i) = max i j by rw [Int.max_def]; split <;> split <;> omega]
        exact q _ _ _ F' N'
      · exact q.elim
noncomputable def PartV : Option Int → Value → Prop
  | none, v => v = .none
  | some i, v => ∃ t, v = .int i t
theorem slice_ok {v : PySem.Expr} {lo hi : Option PySem.Expr} {p : Pos} {x : PV} {o1 o2 : Option Int} {v1 v2 : Value} {t : Tok} {Q : Value → Shared → Prop} (F : Fr h₀ L s.heap m) (N : News h₀ L s.heap news)
    (h1 : PartV o1 v1) (h2 : PartV o2 v2) (q : (pSl x o1 o2).holds fun v => ∀ h' tk t, Fr h₀ L h' m → News h₀ L h' news → Q (v.den t) { s with heap := h', toks := tk }) :
    wpAny (model prog w) A (subscriptTail v (.Slice lo hi none p) (x.den t) (.ref s.heap.objs.size)) Q E { s with heap := s.heap.push { cls := .type "slice", data := .fields #[v1, v2, .none] } } := by
  cases x <;> try exact q.elim
  case str x =>
    have hz : x.length ≤ sizeLine := q.1
    have ht : ∀ r, letTemporaryGo v (.str x t) r = pure () := let_str _ _ _
    cases o1 <;> cases o2
    · cases h1; cases h2
      exact slice_strN_nn F N (fun h' t' k F' N' => q.2 _ _ _ F' N') rfl (let_str _ _ _) hz
    · cases h1; obtain ⟨_, rfl⟩ := h2
      exact slice_strN_ns F N (fun h' t' k F' N' => q.2 _ _ _ F' N') rfl (let_str _ _ _) hz
    · cases h2; obtain ⟨_, rfl⟩ := h1
      exact slice_strN_sn F N (fun h' t' k F' N' => q.2 _ _ _ F' N') rfl (let_str _ _ _) hz
    · obtain ⟨_, rfl⟩ := h1; obtain ⟨_, rfl⟩ := h2
      exact slice_strN_ss F N (fun h' t' k F' N' => q.2 _ _ _ F' N') rfl (let_str _ _ _) hz
inductive VsDen : List PV → List Value → Prop
  | nil : VsDen [] []
  | cons {p : PV} {v : Value} {ps : List PV} {vs : List Value} (h : ∃ t, v = p.den t) (r : VsDen ps vs) : VsDen (p :: ps) (v :: vs)
theorem callB_ok {id : String} {ps : List PV} {vs : List Value} {Q : Value → Shared → Prop} (hh : A.handled = none) (F : Fr h₀ L s.heap m) (N : News h₀ L s.heap news) (hv : VsDen ps vs)
    (q : (callB id ps).holds fun v => ∀ h' tk t, Fr h₀ L h' m → News h₀ L h' news → Q (v.den t) { s with heap := h', toks := tk }) : wpAny (model prog w) A (call (.builtin id) vs) Q E s := by
  cases hv with
  | nil => exact q.elim
  | cons h1 r1 =>
    obtain ⟨t, rfl⟩ := h1
    cases r1 with
    | nil => exact call1_ok (Rs.mono (fun v q3 tk3 t3 => q3 s.heap tk3 t3 F N) q)
    | cons h2 r2 =>
      obtain ⟨u, rfl⟩ := h2
      cases r2 with
      | nil => exact call2_ok hh F N q
      | cons _ _ => exact q.elim
end
theorem star1 {e : PySem.Expr} {r : List PySem.Expr} {env : Env} (h : plainArg e = true) : starEach (e :: r) env = (false, eval e env) :: starEach r env := by
  cases e <;> first | rfl | cases h
theorem starAll {env : Env} {pos : Pos} : ∀ {r : List PySem.Expr}, r.all plainArg = true → ((backTo pos (starEach r env)).any fun x => x.1) = false
  | [], _ => rfl
  | e :: r, h => by
    rw [List.all_cons, Bool.and_eq_true] at h
    rw [star1 h.1]
    show (false || ((backTo pos (starEach r env)).any fun x => x.1)) = false
    rw [starAll h.2]
    rfl
noncomputable def EV.Spec (e : PySem.Expr) : EV → Prop
  | .bad => True
  | .name x => ∃ p, e = .Name x p
  | .const c => ∃ k p, e = .Constant c k p
  | .bin l op r => ∃ p, e = .BinOp l op r p
  | .neg x => ∃ p, e = .UnaryOp .USub x p
  | .ite t b o => ∃ p, e = .IfExp t b o p
  | .slice v lo hi => ∃ p p', e = .Subscript v (.Slice lo hi none p') p
  | .item v i => (∀ o j, subscripted i false o j = operate [o, j] (getItem o j)) ∧ ∃ p, e = .Subscript v i p
  | .nitem x i => (∀ o j, subscripted i false o j = operate [o, j] (getItem o j)) ∧ ∃ p' p, e = .Subscript (.Name x p') i p
  | .call f x xs => (plainArg x = true ∧ xs.all plainArg = true) ∧ ∃ p p', e = .Call (.Name f p) (x :: xs) [] p'
  | .attr x a => ∃ p p', e = .Attribute (.Name x p) a p'
theorem plainIdx_spec {i : PySem.Expr} (h : plainIdx i = true) : ∀ o j, subscripted i false o j = operate [o, j] (getItem o j) := by
  cases i <;> first | exact fun _ _ => rfl | cases h
theorem itView_spec {i v : PySem.Expr} {p : Pos} (h : plainIdx i = true) : (itView i v).Spec (.Subscript v i p) := by
  cases v <;> first | exact ⟨plainIdx_spec h, _, _, rfl⟩ | exact ⟨plainIdx_spec h, _, rfl⟩
theorem eview_spec (e : PySem.Expr) : (eview e).Spec e := by
  cases e <;> try trivial
  case Name => exact ⟨_, rfl⟩
  case Constant => exact ⟨_, _, rfl⟩
  case BinOp => exact ⟨_, rfl⟩
  case UnaryOp op x p => cases op <;> first | trivial | exact ⟨_, rfl⟩
  case IfExp => exact ⟨_, rfl⟩
  case Attribute v a p => cases v <;> first | trivial | exact ⟨_, _, rfl⟩
  case Subscript v s p =>
    by_cases h : plainIdx s = true
    · have : eview (.Subscript v s p) = itView s v := by
        show subView v s = _
        cases s <;> first | (cases h; done) | rfl
      rw [this]
      exact itView_spec h
    · cases s <;> try trivial
      case Slice lo hi st p' => cases st <;> first | trivial | exact ⟨_, _, rfl⟩
      all_goals exact absurd rfl h
  case Call f xs ks p =>
    rcases ks with _ | ⟨k, ks⟩
    · cases f <;> try trivial
      rename_i x p2
      cases xs with
      | nil => trivial
      | cons y ys =>
        show (if plainArg y && ys.all plainArg then EV.call x y ys else .bad).Spec _
        split
        · rename_i h; exact ⟨by simpa using h, _, _, rfl⟩
        · trivial
    · trivial
noncomputable def BV.Spec (e : PySem.Expr) : BV → Prop
  | .bad => True
  | .cmp l op r => behindInMarks op r = false ∧ ∃ p, e = .Compare l [op] [r] p
  | .one x => ∃ op p, e = .BoolOp op [x] p
  | .and x r => ∃ y ys p, e = .BoolOp .And (x :: y :: ys) p ∧ r = .BoolOp .And (y :: ys) p
  | .or x r => ∃ y ys p, e = .BoolOp .Or (x :: y :: ys) p ∧ r = .BoolOp .Or (y :: ys) p
  | .not x => ∃ p, e = .UnaryOp .Not x p
  | .plain => ∀ env whole, isTrue e env whole = (do let v ← whole; standAt e.pos; holding [v] (truthy v))
theorem bview_spec (e : PySem.Expr) : (bview e).Spec e := by
  cases e <;> try trivial
  case Compare l ops rs p =>
    rcases ops with _ | ⟨op, _ | ⟨_, _⟩⟩ <;> try trivial
    rcases rs with _ | ⟨r, _ | ⟨_, _⟩⟩ <;> try trivial
    show (if behindInMarks op r then BV.bad else .cmp l op r).Spec _
    split
    · trivial
    · rename_i h; exact ⟨by simpa using h, _, rfl⟩
  case BoolOp op xs p =>
    rcases xs with _ | ⟨x, _ | ⟨y, r⟩⟩
    · trivial
    · exact ⟨_, _, rfl⟩
    · cases op
      · exact ⟨_, _, _, rfl, rfl⟩
      · exact ⟨_, _, _, rfl, rfl⟩
  case UnaryOp op x p => cases op <;> first | trivial | exact ⟨_, rfl⟩
  all_goals exact fun _ _ => rfl
noncomputable def HV.Spec (e : PySem.Expr) : HV → Prop
  | .or a b => ∃ p, e = .BoolOp .Or [a, b] p
  | .plain => True
theorem hview_spec (e : PySem.Expr) : (hview e).Spec e := by
  cases e <;> try trivial
  case BoolOp op xs p =>
    cases op
    · trivial
    · rcases xs with _ | ⟨x, _ | ⟨y, _ | ⟨z, r⟩⟩⟩ <;> try trivial
      exact ⟨_, rfl⟩
theorem lookup_in {κ α : Type} [BEq κ] [LawfulBEq κ] {x : κ} {v : α} : ∀ {l : List (κ × α)}, l.lookup x = some v → (x, v) ∈ l
  | [], h => by cases h
  | (y, u) :: r, h => by
    rw [List.lookup_cons] at h
    split at h
    · rename_i e
      cases h
      rw [eq_of_beq e]
      exact .head _
    · exact .tail _ (lookup_in h)
set_option genInjectivity false in
set_option genSizeOf false in
structure Cx where
  prog : Program
  w : World
  A : Around
  E : Value → Shared → Prop
  h₀ : Heap
  L : Addr
  s : Shared
  gl : List (Str × Value)
  cn : Str
  cs : Scope
  a : Addr
  cd : Value
  cl : List (Str × Addr)
  Q : Flow → Shared → Prop
  hk : cs.kind = .function
  hh : A.handled = none
  hG : GlOk prog w h₀ gl
noncomputable abbrev Cx.env (C : Cx) : Env := envX C.cn C.cs C.L C.a C.cd C.cl
noncomputable abbrev Cx.sg (C : Cx) (h : Heap) (tk : Nat) : Shared := { C.s with heap := h, toks := tk }
noncomputable abbrev Cx.M (C : Cx) : Model := model C.prog C.w
noncomputable def At (C : Cx) (m : Str → Option Value) (nw : Led) (T : Shared → Prop) : Prop := ∀ h tk, Fr C.h₀ C.L h m → News C.h₀ C.L h nw → T (C.sg h tk)
noncomputable def Ev (C : Cx) (m : Str → Option Value) (nw : Led) {α : Type} (t : Sem α) (q : (α → Shared → Prop) → Prop) : Prop := ∀ Q : α → Shared → Prop, q Q → At C m nw fun s => wpAny C.M C.A t Q C.E s
noncomputable abbrev VK (C : Cx) (m : Str → Option Value) (nw : Led) (Q : Value → Shared → Prop) : PV → Prop := fun v => ∀ t, At C m nw (Q (v.den t))
noncomputable abbrev BK (C : Cx) (m : Str → Option Value) (nw : Led) (Q : Bool → Shared → Prop) : Prop → Prop := fun p => ∀ b, (b = true ↔ p) → At C m nw (Q b)
noncomputable abbrev HK (C : Cx) (m : Str → Option Value) (nw : Led) (Q : Value → Shared → Prop) : Option Int → Prop := fun o => ∀ v, PartV o v → At C m nw (Q v)
noncomputable def SeqIn (nw : Led) (a : Addr) (vs : List Value) : Prop := (∃ n, (a, listOf vs.toArray n) ∈ nw) ∨ (a, ({ cls := .type "tuple", data := .seq vs.toArray } : Obj)) ∈ nw
noncomputable def FnOk (C : Cx) (f : Str) (r : List PV → Rs) : Prop :=
  ∀ (m : Str → Option Value) (nw : Led) (x : PySem.Expr) (xs : List PySem.Expr) (p p' : Pos) (Q : Value → Shared → Prop), plainArg x = true → xs.all plainArg = true →
    (At C m nw fun s => wpAny C.M C.A (spliced (backTo p' (starEach (x :: xs) C.env))) (fun vs s' => ∃ ps, VsDen ps vs ∧ (r ps).holds (VK C m nw Q) ∧ ∃ h tk, s' = C.sg h tk ∧ Fr C.h₀ C.L h m ∧ News C.h₀ C.L h nw) C.E s) →
    At C m nw fun s => wpAny C.M C.A (eval (.Call (.Name f p) (x :: xs) [] p') C.env) Q C.E s
noncomputable def AttrOk (C : Cx) (nw : Led) (d : Addr) (a : Str) (v : Value) : Prop :=
  ∀ (m : Str → Option Value) (nw' : Led), (∀ p ∈ nw, p ∈ nw') → Ev C m nw' (getAttr (.ref d) a true) fun Q => At C m nw' (Q v)
noncomputable def NmIs (C : Cx) (m : Str → Option Value) (nw : Led) (x : Str) (v : Value) : Prop :=
  (x == Str.ofString "__debug__") = false ∧ ((C.env.kindOf x = some .local ∧ m x = some v) ∨ (C.env.kindOf x = some .cell ∧ ∃ c o, C.cl.lookup x = some c ∧ (c, o) ∈ nw ∧ o.data = .cell (some v)))
theorem NmIs.loc {C : Cx} {m : Str → Option Value} {nw : Led} {x : Str} {v : Value} (hm : m x = some v) (hx : C.env.kindOf x = some .local) (hd : (x == Str.ofString "__debug__") = false) : NmIs C m nw x v := ⟨hd, .inl ⟨hx, hm⟩⟩
theorem NmIs.cell {C : Cx} {m : Str → Option Value} {nw : Led} {x : Str} {v : Value} {c : Addr} {o : Obj} (hc : C.cl.lookup x = some c) (hmem : (c, o) ∈ nw) (ho : o.data = .cell (some v)) (hx : C.env.kindOf x = some .cell) (hd : (x == Str.ofString "__debug__") = false) : NmIs C m nw x v := ⟨hd, .inr ⟨hx, c, o, hc, hmem, ho⟩⟩
theorem NmIs.ev {C : Cx} {m : Str → Option Value} {nw : Led} {x : Str} {v : Value} (h : NmIs C m nw x v) (p : Pos) : Ev C m nw (eval (.Name x p) C.env) fun Q => At C m nw (Q v) := by
  intro Q q h1 tk F N
  obtain ⟨hd, ⟨hx, hm⟩ | ⟨hx, c, o, hc, hmem, ho⟩⟩ := h
  · exact nameX_L F hm (q h1 tk F N) C.hk hx hd
  · exact nameX_C N hc hmem ho (q h1 tk F N) C.hk hx hd
theorem NmIs.up {C : Cx} {m m' : Str → Option Value} {nw nw' : Led} {x : Str} {v : Value} (h : NmIs C m nw x v) (hm : m' x = m x) (hs : ∀ p ∈ nw, p ∈ nw') : NmIs C m' nw' x v := by
  obtain ⟨hd, ⟨hx, e⟩ | ⟨hx, c, o, hc, hmem, ho⟩⟩ := h
  · exact ⟨hd, .inl ⟨hx, hm.trans e⟩⟩
  · exact ⟨hd, .inr ⟨hx, c, o, hc, hs _ hmem, ho⟩⟩
structure TbOk (C : Cx) (m : Str → Option Value) (nw : Led) (tb : Tb) : Prop where
  gl : tb.gl = C.gl
  il : ∀ x ns, tb.il.lookup x = some ns → ∃ a vs, NmIs C m nw x (.ref a) ∧ SeqIn nw a vs ∧ IntsAre vs ns
  ats : ∀ x a v, tb.ats.lookup (x, a) = some v → ∃ d, NmIs C m nw x (.ref d) ∧ AttrOk C nw d a v
  fo : ∀ f r, tb.fo.lookup f = some r → FnOk C f r
  nm : ∀ x v, tb.nm.lookup x = some v → NmIs C m nw x v
theorem tb0 {C : Cx} {m : Str → Option Value} {nw : Led} : TbOk C m nw { gl := C.gl } := ⟨rfl, fun _ _ h => (by cases h), fun _ _ _ h => (by cases h), fun _ _ h => (by cases h), fun _ _ h => (by cases h)⟩
theorem nm_ok {C : Cx} {m : Str → Option Value} {nw : Led} {tb : Tb} {x : Str} {v : Value} (ht : TbOk C m nw tb) (h : pNm C.env m tb x = some v) (p : Pos) : Ev C m nw (eval (.Name x p) C.env) fun Q => At C m nw (Q v) := by
  intro Q q h1 tk F N
  unfold pNm at h
  split at h
  · cases h
  rename_i hd
  split at h
  · rename_i hx
    exact nameX_L F h (q h1 tk F N) C.hk hx (by simpa using hd)
  · rename_i hx
    rw [ht.gl] at h
    exact C.hG _ _ h _ _ _ _ _ _ _ _ _ _ _ _ C.hk hx (by simpa using hd) F (q h1 tk F N)
  · exact (ht.nm _ _ h).ev p Q q h1 tk F N
  · cases h
theorem isB_ok {o : Option Value} {id : String} (h : isB o = some id) : o = some (.builtin id) := by
  unfold isB at h
  split at h
  · cases h; rfl
  · cases h
section
variable {C : Cx} {m : Str → Option Value} {nw : Led} {tb : Tb}
theorem name_ok {x : Str} (ht : TbOk C m nw tb) (p : Pos) (Q : Value → Shared → Prop) (q : (rName (pNm C.env m tb x)).holds (VK C m nw Q)) : At C m nw fun s => wpAny C.M C.A (eval (.Name x p) C.env) Q C.E s := by
  cases hm : pNm C.env m tb x with
  | none => rw [hm] at q; exact q.elim
  | some v =>
    rw [hm] at q
    obtain ⟨t, e⟩ := toPV_den v
    exact nm_ok ht hm p Q (e ▸ q t)
theorem seq_ok {p : Pos} : ∀ {xs : List PySem.Expr} {n : Nat} (_ : ∀ (e : PySem.Expr) (Q : Value → Shared → Prop), (pV C.env m tb n e).holds (VK C m nw Q) → At C m nw fun s => wpAny C.M C.A (eval e C.env) Q C.E s)
    (_ : xs.all plainArg = true) {f : List PV → Rs} {k : PV → Prop} (_ : (seqR (xs.map (pV C.env m tb n)) f).holds k),
    Ev C m nw (spliced (backTo p (starEach xs C.env))) fun Q => ∀ ps vs, VsDen ps vs → (f ps).holds k → At C m nw (Q vs)
  | [], n, _, _, f, k, q => fun Q hQ h tk F N => args_nil (hQ [] [] .nil q h tk F N)
  | e :: r, n, ih, hp, f, k, q => by
    intro Q hQ h tk F N
    rw [List.all_cons, Bool.and_eq_true] at hp
    refine args_cons (ih e _ (Rs.mono (fun v q1 t h1 tk1 F1 N1 => ?_) (un1_h q)) h tk F N) (star1 hp.1)
    exact seq_ok (xs := r) ih hp.2 q1 _ (fun ps vs hv h2 => hQ (v :: ps) (v.den t :: vs) (.cons ⟨t, rfl⟩ hv) h2) h1 tk1 F1 N1
end
theorem pv_all {C : Cx} {m : Str → Option Value} {nw : Led} {tb : Tb} (ht : TbOk C m nw tb) : ∀ n,
    (∀ e (Q : Value → Shared → Prop), (pV C.env m tb n e).holds (VK C m nw Q) → At C m nw fun s => wpAny C.M C.A (eval e C.env) Q C.E s) ∧
    (∀ e (Q : Bool → Shared → Prop), (pB C.env m tb n e).holds (BK C m nw Q) → At C m nw fun s => wpAny C.M C.A (isTrue e C.env (eval e C.env)) Q C.E s) ∧
    (∀ o (Q : Value → Shared → Prop), (pH C.env m tb n o).holds (HK C m nw Q) → At C m nw fun s => wpAny C.M C.A (evalPart o C.env) Q C.E s)
  | 0 => ⟨fun _ _ q => q.elim, fun _ _ q => q.elim, fun _ _ q => q.elim⟩
  | n + 1 => by
    obtain ⟨ihV, ihB, ihH⟩ := pv_all ht n
    refine ⟨fun e Q q => ?_, fun e Q q => ?_, fun o Q q => ?_⟩
    · unfold pV at q
      have hs := eview_spec e
      generalize eview e = ev at q hs
      cases ev with
      | bad => exact q.elim
      | name x =>
        obtain ⟨pos, rfl⟩ := hs
        exact name_ok ht pos Q q
      | const c =>
        obtain ⟨k, p, rfl⟩ := hs
        intro h tk F N
        cases c <;> try exact q.elim
        · exact wpAny_Constant_none (q 0 h tk F N)
        · exact wpAny_Constant_bool (q 0 h tk F N)
        · exact wpAny_Constant_int (q _ h _ F N)
        · exact Constant_str (q _ h _ F N)
      | bin l op r =>
        obtain ⟨p, rfl⟩ := hs
        intro h tk F N
        refine wpAny_BinOp (ihV l _ (Rs.mono (fun v q1 t1 => ?_) (bin2_h q)) h tk F N)
        refine ihV r _ (Rs.mono (fun v2 q2 t2 h2 tk2 F2 N2 => ?_) q1)
        exact binop_ok (s := C.sg h2 tk2) (Rs.mono (fun v q3 tk3 t3 => q3 t3 h2 tk3 F2 N2) q2)
      | neg x =>
        obtain ⟨p, rfl⟩ := hs
        intro h tk F N
        refine UnaryOp_ (ihV x _ (Rs.mono (fun v q1 t1 h1 tk1 F1 N1 => ?_) (un1_h q)) h tk F N)
        cases v <;> try exact q1.elim
        exact neg_int (q1 _ h1 _ F1 N1)
      | ite t b o =>
        obtain ⟨p, rfl⟩ := hs
        intro h tk F N
        refine IfExp_ (ihB t _ (Bs.mono (fun P q1 c hc => ?_) (rIte_h q)) h tk F N)
        cases c with
        | true => exact ihV b _ (q1.1 (hc.mp rfl))
        | false => exact ihV o _ (q1.2 fun hp => Bool.false_ne_true (hc.mpr hp))
      | slice v lo hi =>
        obtain ⟨p, p', rfl⟩ := hs
        intro h tk F N
        refine Subscript_ (ihV v _ (Rs.mono (fun x q1 t1 h1 tk1 F1 N1 => ?_) (un1_h q)) h tk F N)
        refine wpAny_Slice (ihH lo _ (Hs.mono (fun o1 q2 v1 p1 => ?_) (rSl_h q1)) h1 tk1 F1 N1)
        refine ihH hi _ (Hs.mono (fun o2 q3 v2 p2 h3 tk3 F3 N3 => ?_) q2)
        exact evalPart_none_step (slice_ok (s := C.sg h3 tk3) F3 N3 p1 p2 (Rs.mono (fun v q4 h4 tk4 t4 F4 N4 => q4 t4 h4 tk4 F4 N4) q3))
      | item v i =>
        obtain ⟨hsub, p, rfl⟩ := hs
        intro h tk F N
        refine Subscript_ (ihV v _ (Rs.mono (fun x q1 t1 => ?_) (bin2_h q)) h tk F N)
        refine ihV i _ (Rs.mono (fun y q2 t2 h2 tk2 F2 N2 => ?_) q1)
        exact item_ok (s := C.sg h2 tk2) hsub (Rs.mono (fun v q3 tk3 t3 => q3 t3 h2 tk3 F2 N2) q2)
      | nitem x i =>
        obtain ⟨hsub, p', p, rfl⟩ := hs
        intro h tk F N
        dsimp only at q
        cases hl : tb.il.lookup x with
        | none =>
          rw [hl] at q
          refine Subscript_ (name_ok ht p' _ (Rs.mono (fun x q1 t1 => ?_) (bin2_h q)) h tk F N)
          refine ihV i _ (Rs.mono (fun y q2 t2 h2 tk2 F2 N2 => ?_) q1)
          exact item_ok (s := C.sg h2 tk2) hsub (Rs.mono (fun v q3 tk3 t3 => q3 t3 h2 tk3 F2 N2) q2)
        | some ns =>
          rw [hl] at q
          (refine Uc.ex2 (ht.il _ _ hl) fun a vs => Uc.an3 fun hm hmem hI => ?_)
          refine Subscript_ (hm.ev p' _ (ihV i _ (Rs.mono (fun y q2 t2 h2 tk2 F2 N2 => ?_) (un1_h q))) h tk F N)
          cases y <;> try exact q2.elim
          have q3 := q2.1
          have hk : (ns.length : Int) ≤ 1000000 := Int.ofNat_le.mpr q3.1
          have hz := Int.lt_of_lt_of_le q3.2.2 (Int.le_trans hk (by decide : (1000000 : Int) ≤ 2 ^ 63))
          rcases hmem with ⟨n', hmem⟩ | hmem
          · exact item_list_ints (s := C.sg h2 tk2) (News.isList N2 hmem) hI q3.2.1 q3.2.2 hz (fun t => q2.2 t h2 tk2 F2 N2) (hsub _ _) fun _ => rfl
          · exact item_tuple_ints (s := C.sg h2 tk2) (News.isTup N2 hmem) hI q3.2.1 q3.2.2 hz (fun t => q2.2 t h2 tk2 F2 N2) (hsub _ _) fun _ => rfl
      | call f x xs =>
        obtain ⟨w30q, p, p', rfl⟩ := hs; (refine Uc.ah2 w30q fun px pxs => ?_; clear w30q)
        intro h tk F N
        dsimp only at q
        cases hc : isB (pNm C.env m tb f) with
        | some id =>
          rw [hc] at q
          have hn := isB_ok hc
          have go : (seqR ((x :: xs).map (pV C.env m tb n)) (callB id)).holds (VK C m nw Q) → wpAny C.M C.A (eval (.Call (.Name f p) (x :: xs) [] p') C.env) Q C.E (C.sg h tk) := fun q => by
            refine Call_ (nm_ok ht hn p _ (fun h1 tk1 F1 N1 => ?_) h tk F N)
            refine PyProof.Rows.callWith_builtin1 ?_ (star1 px) (starAll pxs)
            refine seq_ok (xs := x :: xs) ihV (by rw [List.all_cons, px, pxs]; rfl) q _ (fun ps vs hv h2 h3 tk3 F3 N3 => ?_) h1 tk1 F1 N1
            exact callB_ok (s := C.sg h3 tk3) C.hh F3 N3 hv (Rs.mono (fun v q4 h4 tk4 t4 F4 N4 => q4 t4 h4 tk4 F4 N4) h2)
          dsimp only at q
          split at q
          · rename_i ns he hl
            obtain ⟨hid, hxs⟩ := Bool.and_eq_true_iff.mp he
            have hid := eq_of_beq hid
            subst hid
            cases xs with
            | cons _ _ => cases hxs
            | nil =>
              cases x <;> try (cases hl; done)
              rename_i y py
              (refine Uc.ex2 (ht.il _ _ hl) fun a vs => Uc.an3 fun hm hmem hI => ?_)
              refine Call_ (nm_ok ht hn p _ (fun h0 tk0 F0 N0 => ?_) h tk F N)
              refine PyProof.Rows.callWith_builtin1 (args_cons (hm.ev py _ (fun h1 tk1 F1 N1 => args_nil ?_) h0 tk0 F0 N0) rfl) rfl rfl
              have hb : ns.length ≤ 16384 := q.1
              rcases hmem with ⟨n', hmem⟩ | hmem
              · exact len_ints_fit (s := C.sg h1 tk1) (News.isList N1 hmem) hI (Nat.lt_of_le_of_lt hb (by decide)) (q.2 _ h1 _ F1 N1)
              · exact kun_lenT (s := C.sg h1 tk1) (News.isTup N1 hmem) (by rw [List.size_toArray, intsAre_len hI]) (Int.ofNat_le.mpr hb) (q.2 _ h1 _ F1 N1)
          · exact go q
        | none =>
          rw [hc] at q
          dsimp only at q
          cases hf : tb.fo.lookup f with
          | none => rw [hf] at q; exact q.elim
          | some r =>
            rw [hf] at q
            refine ht.fo f r hf m nw x xs p p' Q px pxs (fun h1 tk1 F1 N1 => ?_) h tk F N
            refine seq_ok (xs := x :: xs) ihV (by rw [List.all_cons, px, pxs]; rfl) q _ (fun ps vs hv h2 h3 tk3 F3 N3 => ?_) h1 tk1 F1 N1
            exact ⟨ps, hv, h2, h3, tk3, rfl, F3, N3⟩
      | attr x a =>
        obtain ⟨p, p', rfl⟩ := hs
        dsimp only at q
        cases hl : tb.ats.lookup (x, a) with
        | none => rw [hl] at q; exact q.elim
        | some v =>
          rw [hl] at q
          obtain ⟨t, e⟩ := toPV_den v
          obtain ⟨d, hm, hA⟩ := ht.ats x a v hl
          intro h tk F N
          exact Attribute_Name_ (hm.ev p _ (hA m nw (fun _ z => z) Q (e ▸ q t)) h tk F N)
    · unfold pB at q
      have hs := bview_spec e
      generalize bview e = ev at q hs
      cases ev with
      | bad => exact q.elim
      | cmp l op r =>
        obtain ⟨hm, p, rfl⟩ := hs
        intro h tk F N
        refine wpAny_isTrue_Compare1 (ihV l _ (Rs.mono (fun v q1 t1 => ?_) (bin2B_h q)) h tk F N) hm
        refine ihV r _ (Rs.mono (fun v2 q2 t2 h2 tk2 F2 N2 => ?_) q1)
        exact cmp_ok (s := C.sg h2 tk2) (Bs.mono (fun P q3 b hb => wpAny_truthy_bool (q3 b hb h2 tk2 F2 N2)) q2)
      | one x =>
        obtain ⟨op, p, rfl⟩ := hs
        intro h tk F N
        cases op with
        | And =>
          refine isTrue_and (ihB x _ (Bs.mono (fun P q1 c hc h1 tk1 F1 N1 => ?_) q) h tk F N)
          cases c with
          | true => exact isTrue_and_nil (q1 true hc h1 tk1 F1 N1)
          | false => exact q1 false hc h1 tk1 F1 N1
        | Or =>
          refine isTrue_or (ihB x _ (Bs.mono (fun P q1 c hc h1 tk1 F1 N1 => ?_) q) h tk F N)
          cases c with
          | true => exact q1 true hc h1 tk1 F1 N1
          | false => exact isTrue_or_nil (q1 false hc h1 tk1 F1 N1)
      | and x r =>
        (refine Uc.ex3 hs fun y ys p => Uc.an2 fun e1q e2q => ?_; clear hs; subst e1q; subst e2q)
        intro h tk F N
        refine isTrue_and (ihB x _ (Bs.mono (fun P q1 c hc => ?_) (andB_h q)) h tk F N)
        cases c with
        | true => exact ihB (.BoolOp .And (y :: ys) p) _ (Bs.mono (fun P2 q2 b hb => q2 b (hb.trans ⟨fun z => ⟨hc.mp rfl, z⟩, And.right⟩)) (q1.1 (hc.mp rfl)))
        | false =>
          obtain ⟨P2, q2⟩ := q1.2
          exact q2 false ⟨fun z => absurd z (by decide), fun z => absurd (hc.mpr z.1) (by decide)⟩
      | or x r =>
        (refine Uc.ex3 hs fun y ys p => Uc.an2 fun e1q e2q => ?_; clear hs; subst e1q; subst e2q)
        intro h tk F N
        refine isTrue_or (ihB x _ (Bs.mono (fun P q1 c hc => ?_) (orB_h q)) h tk F N)
        cases c with
        | false => exact ihB (.BoolOp .Or (y :: ys) p) _ (Bs.mono (fun P2 q2 b hb => q2 b (hb.trans ⟨.inr, fun z => z.resolve_left fun zp => Bool.false_ne_true (hc.mpr zp)⟩)) (q1.1 fun zp => Bool.false_ne_true (hc.mpr zp)))
        | true =>
          obtain ⟨P2, q2⟩ := q1.2
          exact q2 true ⟨fun _ => .inl (hc.mp rfl), fun _ => rfl⟩
      | not x =>
        obtain ⟨p, rfl⟩ := hs
        intro h tk F N
        refine isTrue_not (ihB x _ (Bs.mono (fun P q1 c hc => ?_) (notB_h q)) h tk F N)
        refine q1 _ ?_
        cases c with
        | true => exact ⟨fun z => absurd z (by decide), fun z => absurd (hc.mp rfl) z⟩
        | false => exact ⟨fun _ z => Bool.false_ne_true (hc.mpr z), fun _ => rfl⟩
      | plain =>
        intro h tk F N
        refine isTrue_plain (ihV e _ (Rs.mono (fun v q1 t1 h1 tk1 F1 N1 => ?_) (truB_h q)) h tk F N) (hs _ _)
        exact tru_ok (s := C.sg h1 tk1) (Bs.mono (fun P q3 b tk3 hb => q3 b hb h1 tk3 F1 N1) q1)
    · intro h tk F N
      cases o with
      | none =>
        unfold pH at q
        exact evalPart_none_step (q _ rfl h tk F N)
      | some e =>
        unfold pH at q
        have hs := hview_spec e
        generalize hview e = ev at q hs
        cases ev with
        | or x y =>
          obtain ⟨p, rfl⟩ := hs
          obtain ⟨v2, e2, q'⟩ := orN_h q
          refine evalPart_some_step (BoolOp_or (ihV x _ (Rs.mono (fun v q1 t1 h1 tk1 F1 N1 => ?_) q') h tk F N))
          cases v <;> cases v2 <;> try exact q1.elim
          rename_i i
          refine truthy_int ?_
          by_cases h0 : i = 0
          · subst h0
            rw [if_neg (by decide)]
            exact BoolOp_one (ihV y _ (by rw [e2]; exact fun t => q1 _ rfl) h1 tk1 F1 N1)
          · rw [if_pos (by simpa using h0)]
            exact q1 _ (by rw [if_neg h0]; exact ⟨_, rfl⟩) h1 tk1 F1 N1
        | plain =>
          refine evalPart_some_step (ihV e _ (Rs.mono (fun v q1 t1 => ?_) (bdR_h q)) h tk F N)
          cases v <;> try exact q1.elim
          · exact q1 _ ⟨_, rfl⟩
          · exact q1 _ rfl
noncomputable def Cx.post (C : Cx) : List (List Stmt) → Flow → Shared → Prop
  | [] => C.Q
  | r :: ks => stP (model C.prog C.w) C.A r C.env (C.post ks) C.E
noncomputable abbrev Cx.pV (C : Cx) (m : Str → Option Value) (tb : Tb) (e : PySem.Expr) : Rs := Uc.pV C.env m tb 30 e
noncomputable abbrev Cx.pB (C : Cx) (m : Str → Option Value) (tb : Tb) (e : PySem.Expr) : Bs := Uc.pB C.env m tb 30 e
noncomputable def J (C : Cx) (m : Str → Option Value) (nw : Led) (st : List Stmt) (ks : List (List Stmt)) : Prop :=
  At C m nw fun s => wpAny C.M C.A (execs st C.env) (C.post ks) C.E s
theorem Cx.post_out {C : Cx} {f : Flow} {s' : Shared} (hf : f ≠ .next) (q : C.Q f s') : ∀ ks, C.post ks f s'
  | [] => q
  | r :: ks => by
    have := Cx.post_out hf q ks
    show stP _ _ _ _ _ _ f s'
    cases f with
    | next => exact absurd rfl hf
    | ret v => exact this
    | brk => exact this
    | cont => exact this
theorem Cx.post_ret {C : Cx} {v : Value} {s' : Shared} (q : C.Q (.ret v) s') (ks : List (List Stmt)) : C.post ks (.ret v) s' := C.post_out (by intro x; cases x) q ks
section
variable {C : Cx} {m : Str → Option Value} {nw : Led} {tb : Tb} {rest : List Stmt} {ks : List (List Stmt)} {pos : Pos}
theorem J.start {prog : Program} {w : World} {A : Around} {E : Value → Shared → Prop} {h₀ : Heap} {L : Addr} {s : Shared} {gl : List (Str × Value)} {cn : Str} {cs : Scope} {a : Addr} {cd : Value} {cl : List (Str × Addr)}
    {Q : Flow → Shared → Prop} {st : List Stmt} (hG : GlOk prog w h₀ gl) (F : Fr h₀ L s.heap m) (N : News h₀ L s.heap nw) (hk : cs.kind = .function) (hh : A.handled = none)
    (h : let C : Cx := ⟨prog, w, A, E, h₀, L, s, gl, cn, cs, a, cd, cl, Q, hk, hh, hG⟩; J C m nw st []) : wpAny (model prog w) A (execs st (envX cn cs L a cd cl)) Q E s :=
  h s.heap s.toks F N
theorem J.gen {st : List Stmt} (l : Nms) (hk : Has m l) (h : ∀ u, J C (fm u l) nw st ks) : J C m nw st ks := by
  have := h m
  rwa [fm_eq hk] at this
theorem J.nil {r : List Stmt} (h : J C m nw r ks) : J C m nw [] (r :: ks) := fun h' tk F N => wpAny_execs_nil (h h' tk F N)
theorem J.done (q : At C m nw (C.Q .next)) : J C m nw [] [] := fun h tk F N => wpAny_execs_nil (q h tk F N)
theorem J.step {st : Stmt} (h : At C m nw fun s => wpAny C.M C.A (exec st C.env) (C.post (rest :: ks)) C.E s) : J C m nw (st :: rest) ks :=
  fun h' tk F N => wpAny_execs_cons (h h' tk F N)
theorem J.next {h : Heap} {tk : Nat} (q : J C m nw rest ks) (F : Fr C.h₀ C.L h m) (N : News C.h₀ C.L h nw) : C.post (rest :: ks) .next (C.sg h tk) := q h tk F N
section
variable {e : PySem.Expr} {v : PV} {c : Prop} {x : Str} {p : Pos}
theorem ev_ok {Q : Value → Shared → Prop} (ht : TbOk C m nw tb) (hp : C.pV m tb e = .ok v) (q : ∀ t, At C m nw (Q (v.den t))) : At C m nw fun s => wpAny C.M C.A (eval e C.env) Q C.E s :=
  (pv_all ht 30).1 e Q (by show (C.pV m tb e).holds _; rw [hp]; exact q)
theorem ev_c {Q : Value → Shared → Prop} (ht : TbOk C m nw tb) (hp : C.pV m tb e = .cond c v) (hc : c) (q : ∀ t, At C m nw (Q (v.den t))) : At C m nw fun s => wpAny C.M C.A (eval e C.env) Q C.E s :=
  (pv_all ht 30).1 e Q (by show (C.pV m tb e).holds _; rw [hp]; exact ⟨hc, q⟩)
theorem J.ret (ht : TbOk C m nw tb) (hp : C.pV m tb e = .ok v) (q : ∀ t, At C m nw (C.Q (.ret (v.den t)))) : J C m nw (.Return (some e) pos :: rest) ks :=
  J.step fun h tk F N => wpAny_Return_some (ev_ok ht hp (fun t h' tk' F' N' => C.post_ret (q t h' tk' F' N') _) h tk F N)
theorem J.ret_c (ht : TbOk C m nw tb) (hp : C.pV m tb e = .cond c v) (hc : c) (q : ∀ t, At C m nw (C.Q (.ret (v.den t)))) : J C m nw (.Return (some e) pos :: rest) ks :=
  J.step fun h tk F N => wpAny_Return_some (ev_c ht hp hc (fun t h' tk' F' N' => C.post_ret (q t h' tk' F' N') _) h tk F N)
theorem J.brk (q : At C m nw (C.Q .brk)) : J C m nw (.Break pos :: rest) ks :=
  J.step fun h tk F N => wpAny_Break (C.post_out (by intro x; cases x) (q h tk F N) _)
noncomputable abbrev up (m : Str → Option Value) (x : Str) (v : Value) : Str → Option Value := fun y => if y = x then some v else m y
theorem J.store {v : Value} {h : Heap} {tk : Nat} (hx : C.env.kindOf x = some .local) (F : Fr C.h₀ C.L h m) (N : News C.h₀ C.L h nw) (q : J C (up m x v) nw rest ks) :
    wpAny C.M C.A (storeName C.env x v) (fun _ => C.post (rest :: ks) .next) C.E (C.sg h tk) :=
  storeX_L (s := C.sg h tk) F N (fun h' F' N' => q h' _ F' N') C.hk hx
theorem J.asg (ht : TbOk C m nw tb) (hp : C.pV m tb e = .ok v) (hx : C.env.kindOf x = some .local) (hs : swapsWith e (some (.Name x p)) pos.line C.env = pure false)
    (q : ∀ t, J C (up m x (v.den t)) nw rest ks) : J C m nw (.Assign [.Name x p] e pos :: rest) ks :=
  J.step fun h tk F N => wpAny_Assign_Name (ev_ok ht hp (fun t h' tk' F' N' => J.store (tk := tk') hx F' N' (q t)) h tk F N) hs
theorem J.asg_c (ht : TbOk C m nw tb) (hp : C.pV m tb e = .cond c v) (hx : C.env.kindOf x = some .local) (hs : swapsWith e (some (.Name x p)) pos.line C.env = pure false)
    (hc : c) (q : ∀ t, J C (up m x (v.den t)) nw rest ks) : J C m nw (.Assign [.Name x p] e pos :: rest) ks :=
  J.step fun h tk F N => wpAny_Assign_Name (ev_c ht hp hc (fun t h' tk' F' N' => J.store (tk := tk') hx F' N' (q t)) h tk F N) hs
theorem J.asgD {x' : Str} {p' : Pos} (ht : TbOk C m nw tb) (hp : (C.pV m tb e).holds fun v => ∀ t, J C (up (up m x (v.den t)) x' (v.den t)) nw rest ks) (hx : C.env.kindOf x = some .local) (hx' : C.env.kindOf x' = some .local) :
    J C m nw (.Assign [.Name x p, .Name x' p'] e pos :: rest) ks := by
  refine J.step fun h tk F N => wpAny_Assign_two ((pv_all ht 30).1 e _ (Rs.mono (fun v q t h1 tk1 F1 N1 => ?_) hp) h tk F N)
  refine assign_Name (storeX_L (s := C.sg h1 tk1) F1 N1 (fun h2 F2 N2 => ?_) C.hk hx)
  exact assign_Name (storeX_L (s := C.sg h2 (tk1 + 1)) F2 N2 (fun h3 F3 N3 => q t h3 _ F3 N3) C.hk hx')
end
section
variable {t : PySem.Expr} {b o : List Stmt} {p c : Prop}
theorem ite_go (ht : TbOk C m nw tb) (h : (C.pB m tb t).holds fun p => (p → J C m nw b (rest :: ks)) ∧ (¬ p → J C m nw o (rest :: ks))) : J C m nw (.If t b o pos :: rest) ks := by
  refine J.step fun h0 tk F N => wpAny_If ((pv_all ht 30).2.1 t _ (Bs.mono (fun P q c hc h' tk' F' N' => ?_) h) h0 tk F N)
  cases c with
  | true => rw [if_pos rfl]; exact q.1 (hc.mp rfl) h' tk' F' N'
  | false => rw [if_neg (by decide)]; exact q.2 (fun z => Bool.false_ne_true (hc.mpr z)) h' tk' F' N'
theorem J.ite (ht : TbOk C m nw tb) (hp : C.pB m tb t = .ok p) (h1 : p → J C m nw b (rest :: ks)) (h2 : ¬ p → J C m nw o (rest :: ks)) : J C m nw (.If t b o pos :: rest) ks := ite_go ht (by rw [hp]; exact ⟨h1, h2⟩)
theorem J.ite_c (ht : TbOk C m nw tb) (hp : C.pB m tb t = .cond c p) (hc : c) (h1 : p → J C m nw b (rest :: ks)) (h2 : ¬ p → J C m nw o (rest :: ks)) : J C m nw (.If t b o pos :: rest) ks := ite_go ht (by rw [hp]; exact ⟨hc, h1, h2⟩)
end
noncomputable def augR (op : Operator) (m : Str → Option Value) (x : Str) (r : Rs) : Rs := match m x with
  | some v => (match op with
    | .Add => un1 (fun y => pBin .Add (toPV v) y) r
    | .Sub => un1 (fun y => pBin .Sub (toPV v) y) r
    | _ => .bad)
  | none => .bad
theorem aug_all {op : Operator} {x : Str} {e : PySem.Expr} {p : Pos} (ht : TbOk C m nw tb) (hx : C.env.kindOf x = some .local) (h : (augR op m x (C.pV m tb e)).holds fun v => ∀ t, J C (up m x (v.den t)) nw rest ks) :
    J C m nw (.AugAssign (.Name x p) op e pos :: rest) ks := by
  refine J.step fun h0 tk F N => wpAny_AugAssign_Name ?_
  unfold augR at h
  cases hm : m x with
  | none => rw [hm] at h; exact h.elim
  | some v =>
    rw [hm] at h
    obtain ⟨t, et⟩ := toPV_den v
    have ho : op = .Add ∨ op = .Sub := by cases op <;> first | exact .inl rfl | exact .inr rfl | exact h.elim
    have h' : (un1 (fun y => pBin op (toPV v) y) (C.pV m tb e)).holds fun v => ∀ t, J C (up m x (v.den t)) nw rest ks := by rcases ho with rfl | rfl <;> exact h
    refine wpAny_loadName_local C.hk hx F.ns hm ?_
    refine (pv_all ht 30).1 e _ (Rs.mono (fun y q1 t1 h1 tk1 F1 N1 => ?_) (un1_h h')) _ _ F N
    rw [← et]
    exact iop_ok (s := C.sg h1 tk1) ho (Rs.mono (fun r q2 tk2 t2 => J.store (tk := tk2) hx F1 N1 (q2 t2)) q1)
theorem J.aug {op : Operator} {x : Str} {e : PySem.Expr} {p : Pos} {v : PV} (ht : TbOk C m nw tb) (hp : augR op m x (C.pV m tb e) = .ok v) (hx : C.env.kindOf x = some .local) (q : ∀ t, J C (up m x (v.den t)) nw rest ks) :
    J C m nw (.AugAssign (.Name x p) op e pos :: rest) ks := aug_all ht hx (by rw [hp]; exact q)
theorem J.aug_c {op : Operator} {x : Str} {e : PySem.Expr} {p : Pos} {v : PV} (ht : TbOk C m nw tb) {c : Prop} (hp : augR op m x (C.pV m tb e) = .cond c v) (hx : C.env.kindOf x = some .local) (hc : c) (q : ∀ t, J C (up m x (v.den t)) nw rest ks) :
    J C m nw (.AugAssign (.Name x p) op e pos :: rest) ks := aug_all ht hx (by rw [hp]; exact ⟨hc, q⟩)
noncomputable abbrev Cx.setQ (C : Cx) (Q : Flow → Shared → Prop) : Cx := { C with Q := Q }
noncomputable def whQ {σ : Type} (C : Cx) (led : σ → Led) (ps : σ → Nms) (P : σ → Prop) (μ : σ → Nat) (c : σ) (f : Flow) (s' : Shared) : Prop :=
  f = .next ∧ ∃ c' m' h' tk', s' = C.sg h' tk' ∧ Fr C.h₀ C.L h' m' ∧ News C.h₀ C.L h' (led c') ∧ Has m' (ps c') ∧ P c' ∧ μ c' < μ c
theorem J.turn {σ : Type} {led : σ → Led} {ps : σ → Nms} {P : σ → Prop} {μ : σ → Nat} {c : σ} (c' : σ) (hk : Has m (ps c')) (hp : P c') (hm : μ c' < μ c) (hs : ∀ p ∈ led c', p ∈ nw := by exact fun _ h => h) : J (C.setQ (whQ C led ps P μ c)) m nw [] [] :=
  J.done fun h tk F N => ⟨rfl, c', m, h, tk, rfl, F, News.sub N hs, hk, hp, hm⟩
theorem J.while {σ : Type} {test : PySem.Expr} {body : List Stmt} (led : σ → Led) (ps : σ → Nms) (P : σ → Prop) (μ : σ → Nat) (c₀ : σ) (tb : σ → Tb) (ht : ∀ c u, P c → TbOk C (fm u (ps c)) (led c) (tb c)) (hE : PassesOwn C.M C.A C.env C.E) (hk : Has m (ps c₀)) (hp : P c₀)
    (turn : ∀ (c : σ) (u : Str → Option Value), P c → (C.pB (fm u (ps c)) (tb c) test).holds fun p => (p → let C' := C.setQ (whQ C led ps P μ c); J C' (fm u (ps c)) (led c) body []) ∧ (¬ p → J C (fm u (ps c)) (led c) rest ks))
    (hn : ∀ p ∈ led c₀, p ∈ nw := by exact fun _ h => h) :
    J C m nw (.While test body [] pos :: rest) ks := by
  refine J.step fun h tk F N => ?_
  refine While_inv (s := C.sg h tk) (L := C.L) (fun n m nx => ∃ c : σ, nx = led c ∧ μ c = n ∧ Has m (ps c) ∧ P c) F (News.sub N hn) ⟨c₀, rfl, rfl, hk, hp⟩ ?_ hE
  intro n m₁ nx h1 tk1 F₁ N₁ w31q; (refine Uc.ex1 w31q fun c => Uc.an4 fun e1q e2q hk1 hp1 => ?_; clear w31q; subst e1q; subst e2q)
  have T := turn c m₁ hp1
  have ht' := ht c m₁ hp1
  rw [fm_eq hk1] at T ht'
  refine (pv_all ht' 30).2.1 test _ (Bs.mono (fun p q b hb h2 tk2 F2 N2 => ?_) T) h1 tk1 F₁ N₁
  cases b with
  | false =>
    rw [if_neg (by decide)]
    exact q.2 (fun z => Bool.false_ne_true (hb.mpr z)) h2 tk2 F2 N2
  | true =>
    rw [if_pos rfl]
    refine wpAny_mono (q.1 (hb.mp rfl) h2 tk2 F2 N2) (fun f s₃ r => ?_) fun _ _ x => x
    (refine Uc.ah2 r fun e1q q0q => Uc.ex4 q0q fun c' m' h' tk' => Uc.an6 fun e2q F' N' hk' hp' hm' => ?_; clear r q0q; subst e1q; subst e2q)
    exact ⟨rfl, h', tk', m', led c', μ c', rfl, F', N', hm', c', rfl, rfl, hk', hp'⟩
theorem Bs.holds_c {r : Bs} {c p : Prop} {k : Prop → Prop} (h : r = .cond c p) (hc : c) (hk : k p) : r.holds k := by rw [h]; exact ⟨hc, hk⟩
theorem Bs.holds_ok {r : Bs} {p : Prop} {k : Prop → Prop} (h : r = .ok p) (hk : k p) : r.holds k := by rw [h]; exact hk
theorem Rs.holds_c {r : Rs} {c : Prop} {v : PV} {k : PV → Prop} (h : r = .cond c v) (hc : c) (hk : k v) : r.holds k := by rw [h]; exact ⟨hc, hk⟩
theorem Rs.holds_ok {r : Rs} {v : PV} {k : PV → Prop} (h : r = .ok v) (hk : k v) : r.holds k := by rw [h]; exact hk
theorem J.asg2 {x y : Str} {e1 e2 : PySem.Expr} {px py : Pos} {k k2 : Nat} {tp tp2 : Pos} (ht : TbOk C m nw tb) (h1 : plainArg e1 = true) (h2 : plainArg e2 = true)
    (hw : swappedStores [.Tuple [.Name x px, .Name y py] k tp] (.Tuple [e1, e2] k2 tp2) C.env = pure (some [x, y])) (hx : C.env.kindOf x = some .local) (hy : C.env.kindOf y = some .local)
    (h : (C.pV m tb e1).holds fun v1 => (C.pV m tb e2).holds fun v2 => ∀ t u, J C (up (up m y (v2.den u)) x (v1.den t)) nw rest ks) :
    J C m nw (.Assign [.Tuple [.Name x px, .Name y py] k tp] (.Tuple [e1, e2] k2 tp2) pos :: rest) ks := by
  refine J.step fun h0 tk F N => Assign_Tuple_swapped ?_ rfl hw
  refine Tuple_ (args_cons ?_ (star1 h1))
  refine (pv_all ht 30).1 e1 _ (Rs.mono (fun v1 q1 t h3 tk3 F3 N3 => ?_) h) _ _ F N
  refine args_cons ?_ (star1 h2)
  refine (pv_all ht 30).1 e2 _ (Rs.mono (fun v2 q2 u h4 tk4 F4 N4 => ?_) q1) _ _ F3 N3
  refine args_nil (newTuple_N (s := C.sg h4 tk4) F4 N4 fun h5 F5 N5 => ?_)
  refine unpackItemsN_ (s := C.sg h5 tk4) F5 N5 (News.isTup N5 (.head _)) C.hh rfl fun h6 F6 N6 => ?_
  have N7 : News C.h₀ C.L h6 nw := News.sub N6 fun p hp => .tail _ hp
  refine assignInOrder_cons (bindName_ (storeX_L (s := C.sg h6 tk4) F6 N7 (fun h8 F8 N8 => ?_) C.hk hy))
  refine assignInOrder_cons (bindName_ (storeX_L (s := C.sg h8 (tk4 + 1)) F8 N8 (fun h9 F9 N9 => ?_) C.hk hx))
  exact assignInOrder_nil (q2 t u h9 _ F9 N9)
theorem J.tn {σ : Type} {led : σ → Led} {ps : σ → Nms} {R : σ → Prop} {c : σ} {I : Addr} {o : Obj} {Q : Flow → Shared → Prop} (c' : σ) (hk : Has m (ps c')) (hp : R c')
    (ha : ∀ p ∈ led c', p.1 ∈ (led c).map (·.1) ∨ isIt p.2 = false) (hs : ∀ p ∈ led c' ++ [(I, o)], p ∈ nw := by exact fun _ h => h) :
    J (C.setQ (Turn C.h₀ C.L led ps R c I o C.s Q)) m nw [] [] := J.done fun _ _ F N => Turn.next (Q := Q) c' F N hs ha hk hp
noncomputable def RangeIs (C : Cx) (m : Str → Option Value) (nw : Led) (it : PySem.Expr) (a b c : Int) : Prop :=
  ∀ Q : Value → Shared → Prop, (∀ r t u v, At C m nw fun s => IsRange s.heap r a b c t u v → Q (.ref r) s) → At C m nw fun s => wpAny C.M C.A (eval it C.env) Q C.E s
theorem range1 {x : Str} {p p' : Pos} {e : PySem.Expr} {b : Int} (ht : TbOk C m nw tb) (hx : pNm C.env m tb x = some (.type "range")) (he : plainArg e = true) (hb : (C.pV m tb e).holds fun v => v = .int b) : RangeIs C m nw (.Call (.Name x p) [e] [] p') 0 b 1 := by
  intro Q q h tk F N
  refine Call_ (nm_ok ht hx p _ (fun h0 tk0 F0 N0 => Pv.callWith_type1 (args_cons ?_ (star1 he)) (star1 he)) h tk F N)
  refine (pv_all ht 30).1 e _ (Rs.mono (fun v e1 t h1 tk1 F1 N1 => ?_) hb) _ _ F0 N0
  subst e1
  exact args_nil (range1_rows (s := C.sg h1 tk1) F1 N1 fun h2 tk2 t1 u1 v1 hr F2 N2 _ => q _ _ _ _ h2 tk2 F2 N2 hr)
theorem range2 {x : Str} {p p' : Pos} {e e' : PySem.Expr} {a b : Int} (ht : TbOk C m nw tb) (hx : pNm C.env m tb x = some (.type "range")) (he : plainArg e = true) (he' : plainArg e' = true) (ha : (C.pV m tb e).holds fun v => v = .int a) (hb : (C.pV m tb e').holds fun v => v = .int b) :
    RangeIs C m nw (.Call (.Name x p) [e, e'] [] p') a b 1 := by
  intro Q q h tk F N
  refine Call_ (nm_ok ht hx p _ (fun h0 tk0 F0 N0 => Pv.callWith_type1 (args_cons ?_ (star1 he)) (star1 he) (by rw [star1 he']; rfl)) h tk F N)
  refine (pv_all ht 30).1 e _ (Rs.mono (fun v e1 t h1 tk1 F1 N1 => ?_) ha) _ _ F0 N0
  subst e1
  refine args_cons ?_ (star1 he')
  refine (pv_all ht 30).1 e' _ (Rs.mono (fun v e2 t3 h3 tk3 F3 N3 => ?_) hb) _ _ F1 N1
  subst e2
  exact args_nil (range2_rows (s := C.sg h3 tk3) F3 N3 fun h2 tk2 t1 u1 v1 hr F2 N2 _ => q _ _ _ _ h2 tk2 F2 N2 hr)
theorem range3 {x : Str} {p p' : Pos} {e e' e3 : PySem.Expr} {a b c : Int} (ht : TbOk C m nw tb) (hx : pNm C.env m tb x = some (.type "range")) (he : plainArg e = true) (he' : plainArg e' = true) (he3 : plainArg e3 = true) (hc0 : 1 ≤ c.natAbs ∧ c.natAbs ≤ 1000000)
    (ha : (C.pV m tb e).holds fun v => v = .int a) (hb : (C.pV m tb e').holds fun v => v = .int b) (hc : (C.pV m tb e3).holds fun v => v = .int c) : RangeIs C m nw (.Call (.Name x p) [e, e', e3] [] p') a b c := by
  intro Q q h tk F N
  refine Call_ (nm_ok ht hx p _ (fun h0 tk0 F0 N0 => Pv.callWith_type1 (args_cons ?_ (star1 he)) (star1 he) (by rw [star1 he', star1 he3]; rfl)) h tk F N)
  refine (pv_all ht 30).1 e _ (Rs.mono (fun v e1 t h1 tk1 F1 N1 => ?_) ha) _ _ F0 N0
  subst e1
  refine args_cons ?_ (star1 he')
  refine (pv_all ht 30).1 e' _ (Rs.mono (fun v e2 t3 h3 tk3 F3 N3 => ?_) hb) _ _ F1 N1
  subst e2
  refine args_cons ?_ (star1 he3)
  refine (pv_all ht 30).1 e3 _ (Rs.mono (fun v e4 t5 h5 tk5 F5 N5 => ?_) hc) _ _ F3 N3
  subst e4
  exact args_nil (range3_rows (s := C.sg h5 tk5) F5 N5 (by omega) (fun h2 tk2 t1 u1 v1 hr F2 N2 _ => q _ _ _ _ h2 tk2 F2 N2 hr) (.inl (PyProof.noPylong_small (by omega))))
theorem forR {σ : Type} {x : Str} {px : Pos} {it : PySem.Expr} {body : List Stmt} {a b c : Int} (P : Flow → Shared → Prop) (n : Nat) (led : σ → Led) (ps : σ → Nms) (R : Nat → σ → Prop) (c₀ : σ) (hit : RangeIs C m nw it a b c) (hsm : Builtin.Range.small a b c = true) (hn : Builtin.Range.rangeSize a b c = (n : Int))
    (hE : PassesOwn C.M C.A C.env C.E) (hx : C.env.kindOf x = some .local) (hs : ∀ y, foldedSetIterable it C.env y = pure y) (hk : Has m (ps c₀)) (hR : R 0 c₀)
    (turn : ∀ i t (c' : σ) (u : Str → Option Value) I o, i < n → R i c' → (∀ p ∈ led c', p.1 ≠ I) → isIt o = true → let C' := C.setQ (Turn C.h₀ C.L led ps (R (i + 1)) c' I o C.s P); J C' (up (fm u (ps c')) x (.int (a + (i : Int) * c) t)) (led c' ++ [(I, o)]) body [])
    (done : ∀ (c' : σ) (u : Str → Option Value), R n c' → At C (fm u (ps c')) (led c') (P .next)) (hl : ∀ p ∈ led c₀, p ∈ nw := by exact fun _ h => h) : At C m nw fun s => wpAny C.M C.A (exec (.For (.Name x px) it body [] pos) C.env) P C.E s := by
  refine fun h tk F N => For_invV C.h₀ hx (by rw [show C.env.scope.kind = .function from C.hk]; rfl) ?_ hs hE
  refine hit _ (fun r t u v h1 tk1 F1 N1 hr => ?_) h tk F N
  refine iter_range (s := C.sg h1 tk1) led ps R c₀ C.hh hr hsm hn F1 (News.sub N1 hl) hk hR (fun i t' c' u' h' tk' I o hi hR' hne hit' F' N' Z hZ => ?_) fun c' u' h' tk' hR' F' N' => done c' u' hR' h' tk' F' N'
  exact wpAny_mono (turn i t' c' u' I o hi hR' hne hit' h' tk' F' N') (fun f s' q => hZ f s' q) fun _ _ e => e
theorem J.forR {σ : Type} {x : Str} {px : Pos} {it : PySem.Expr} {body : List Stmt} {a b c : Int} (n : Nat) (led : σ → Led) (ps : σ → Nms) (R : Nat → σ → Prop) (c₀ : σ) (hit : RangeIs C m nw it a b c) (hsm : Builtin.Range.small a b c = true) (hn : Builtin.Range.rangeSize a b c = (n : Int))
    (hE : PassesOwn C.M C.A C.env C.E) (hx : C.env.kindOf x = some .local) (hs : ∀ y, foldedSetIterable it C.env y = pure y) (hk : Has m (ps c₀)) (hR : R 0 c₀)
    (turn : ∀ i t (c' : σ) (u : Str → Option Value) I o, i < n → R i c' → (∀ p ∈ led c', p.1 ≠ I) → isIt o = true → let C' := C.setQ (Turn C.h₀ C.L led ps (R (i + 1)) c' I o C.s (C.post (rest :: ks))); J C' (up (fm u (ps c')) x (.int (a + (i : Int) * c) t)) (led c' ++ [(I, o)]) body [])
    (done : ∀ (c' : σ) (u : Str → Option Value), R n c' → J C (fm u (ps c')) (led c') rest ks) (hl : ∀ p ∈ led c₀, p ∈ nw := by exact fun _ h => h) : J C m nw (.For (.Name x px) it body [] pos :: rest) ks :=
  J.step (Uc.forR _ n led ps R c₀ hit hsm hn hE hx hs hk hR turn done hl)
theorem TbOk.up {x : Str} {v : Value} (ht : TbOk C m nw tb) (h : ((tb.il.all fun p => decide (p.1 ≠ x)) && (tb.ats.all fun p => decide (p.1.1 ≠ x)) && (tb.nm.all fun p => decide (p.1 ≠ x))) = true := by rfl) : TbOk C (Uc.up m x v) nw tb := by
  obtain ⟨h12, h3⟩ := Bool.and_eq_true_iff.mp h
  obtain ⟨h1, h2⟩ := Bool.and_eq_true_iff.mp h12
  refine ⟨ht.gl, fun y ns hl => ?_, fun y a u hl => ?_, ht.fo, fun y u hl => ?_⟩
  · obtain ⟨a, vs, hm, r⟩ := ht.il y ns hl
    have : y ≠ x := of_decide_eq_true (List.all_eq_true.mp h1 (y, ns) (lookup_in hl))
    exact ⟨a, vs, hm.up (if_neg this) fun _ z => z, r⟩
  · obtain ⟨d, hm, r⟩ := ht.ats y a u hl
    have : y ≠ x := of_decide_eq_true (List.all_eq_true.mp h2 ((y, a), u) (lookup_in hl))
    exact ⟨d, hm.up (if_neg this) fun _ z => z, r⟩
  · have : y ≠ x := of_decide_eq_true (List.all_eq_true.mp h3 (y, u) (lookup_in hl))
    exact (ht.nm y u hl).up (if_neg this) fun _ z => z
theorem TbOk.addI {x : Str} {ns : List Int} {a : Addr} {vs : List Value} (ht : TbOk C m nw tb) (hm : NmIs C m nw x (.ref a)) (hmem : SeqIn nw a vs) (hI : IntsAre vs ns) : TbOk C m nw { tb with il := (x, ns) :: tb.il } := by
  refine ⟨ht.gl, fun y ns' hl => ?_, ht.ats, ht.fo, ht.nm⟩
  rw [List.lookup_cons] at hl
  split at hl
  · rename_i e
    cases hl
    rw [eq_of_beq e]
    exact ⟨a, vs, hm, hmem, hI⟩
  · exact ht.il y ns' hl
theorem TbOk.addA {x at' : Str} {v : Value} {d : Addr} (ht : TbOk C m nw tb) (hm : NmIs C m nw x (.ref d)) (hA : AttrOk C nw d at' v) : TbOk C m nw { tb with ats := ((x, at'), v) :: tb.ats } := by
  refine ⟨ht.gl, ht.il, fun y b u hl => ?_, ht.fo, ht.nm⟩
  rw [List.lookup_cons] at hl
  split at hl
  · rename_i e
    cases hl
    have e' := eq_of_beq e
    cases e'
    exact ⟨d, hm, hA⟩
  · exact ht.ats y b u hl
theorem TbOk.addF {f : Str} {r : List PV → Rs} (ht : TbOk C m nw tb) (hf : FnOk C f r) : TbOk C m nw { tb with fo := (f, r) :: tb.fo } := by
  refine ⟨ht.gl, ht.il, ht.ats, fun g r' hl => ?_, ht.nm⟩
  rw [List.lookup_cons] at hl
  split at hl
  · rename_i e
    cases hl
    rw [eq_of_beq e]
    exact hf
  · exact ht.fo g r' hl
theorem J.tab {st : List Stmt} (ht : TbOk C m nw tb) (h : TbOk C m nw tb → J C m nw st ks) : J C m nw st ks := h ht
theorem J.seti {x : Str} {e i : PySem.Expr} {p p2 : Pos} {D : Addr} {vs : List Value} {n k : Nat} {v : Int} (ht : TbOk C m ((D, listOf vs.toArray n) :: nw) tb) (he : (C.pV m tb e).holds fun z => z = .int v) (hx : pNm C.env m tb x = some (.ref D))
    (hi : (C.pV m tb i).holds fun z => z = .int k) (hk : k < vs.length ∧ k < 100000000) (hne : ∀ p ∈ nw, p.1 ≠ D) (hs : swapsWith e (some (.Subscript (.Name x p) i p2)) pos.line C.env = pure false)
    (q : ∀ t, J C m ((D, listOf (vs.set k (.int v t)).toArray n) :: nw) rest ks) : J C m ((D, listOf vs.toArray n) :: nw) (.Assign [.Subscript (.Name x p) i p2] e pos :: rest) ks := by
  refine J.step fun h tk F N => wpAny_Assign_Subscript ((pv_all ht 30).1 e _ (Rs.mono (fun z e1 t h1 tk1 F1 N1 => ?_) he) _ _ F N) hs
  subst e1
  refine nm_ok ht hx p _ (fun h2 tk2 F2 N2 => ?_) _ _ F1 N1
  refine (pv_all ht 30).1 i _ (Rs.mono (fun z e3 t3 h3 tk3 F3 N3 => ?_) hi) _ _ F2 N2
  subst e3
  exact set_listH (s := C.sg h3 tk3) F3 N3 hk.1 hk.2 hne fun h4 F4 N4 => q t h4 tk3 F4 N4
theorem J.lrange {x y : Str} {it : PySem.Expr} {a b c : Int} {p p' p2 : Pos} (n : Nat) (ht : TbOk C m nw tb) (hy : pNm C.env m tb y = some (.type "list")) (hp : plainArg it = true) (hit : RangeIs C m nw it a b c) (hsm : Builtin.Range.small a b c = true) (hn : Builtin.Range.rangeSize a b c = (n : Int)) (hl : n ≤ 2 ^ 24)
    (hx : C.env.kindOf x = some .local) (hs : swapsWith (.Call (.Name y p) [it] [] p') (some (.Name x p2)) pos.line C.env = pure false)
    (q : ∀ l vs cnt, (∀ p ∈ nw, p.1 < l) → vs.length = n → IntsAre vs ((List.range n).map fun (i : Nat) => a + (i : Int) * c) → J C (up m x (.ref l)) ((l, listOf vs.toArray cnt) :: nw) rest ks) :
    J C m nw (.Assign [.Name x p2] (.Call (.Name y p) [it] [] p') pos :: rest) ks := by
  refine J.step fun h tk F N => wpAny_Assign_Name (Call_ (nm_ok ht hy p _ (fun h0 tk0 F0 N0 => Pv.callWith_type1 (args_cons ?_ (star1 hp)) (star1 hp)) h tk F N)) hs
  refine hit _ (fun r t u v h1 tk1 F1 N1 hr => ?_) h0 tk0 F0 N0
  refine args_nil (list_range_K (s := C.sg h1 tk1) C.hh F1 N1 hr hsm hn hl fun h2 tk2 vs cnt l F2 N2 hlt hlen hI => ?_)
  exact J.store (tk := tk2) hx F2 N2 (q l vs cnt hlt hlen hI)
end
section
variable {C : Cx} {f : Str} {ad : Addr} {r : List PV → Rs}
theorem FnOk.of (hg : C.gl.lookup f = some (.ref ad)) (hx : C.env.kindOf f = some .globalImplicit) (hd : (f == Str.ofString "__debug__") = false) (X : (K C.w.params).In C.h₀) (hK : keepIn (K C.w.params) (.ref ad) = true)
    (go : ∀ (m : Str → Option Value) (nw : Led) ps vs (Q : Value → Shared → Prop), VsDen ps vs → (r ps).holds (VK C m nw Q) → At C m nw fun s => wpAny C.M C.A (call (.ref ad) vs) Q C.E s) : FnOk C f r := by
  intro m nw x xs p p' Q px pxs hv h tk F N
  refine Call_ (C.hG _ _ hg _ _ _ _ _ _ _ _ _ _ _ _ C.hk hx hd F ?_)
  refine callWith_K X hK (wpAny_mono (hv h tk F N) (fun vs s1 q => ?_) fun _ _ e => e) (star1 px) (starAll pxs)
  obtain ⟨ps, hd, hr, h1, tk1, rfl, F1, N1⟩ := q
  exact ⟨X.keeps F1.keep, go m nw ps vs Q hd hr h1 tk1 F1 N1⟩
end
end Uc
end
local macro_rules | `(tactic| walk_at "h") => `(tactic| first | assumption | exact Uc.TbOk.up ‹_› | exact Uc.TbOk.up (Uc.TbOk.up ‹_›) | exact Uc.TbOk.up (Uc.TbOk.up (Uc.TbOk.up ‹_›)) | exact Uc.tb0)
section
namespace Uc
noncomputable def glob : List (Str × Value) := [(Str.ofString "_MOVE_COST", .int 2 198), (Str.ofString "_CASE_COST", .int 1 200), (Str.ofString "_MAX_STRING_SIZE", .int 40 196),
  (Str.ofString "len", .builtin "len"), (Str.ofString "min", .builtin "min"), (Str.ofString "max", .builtin "max"), (Str.ofString "ord", .builtin "ord"), (Str.ofString "chr", .builtin "chr"), (Str.ofString "range", .type "range"), (Str.ofString "list", .type "list"), (Str.ofString "_substitution_cost", .ref 28), (Str.ofString "_levenshtein_distance", .ref 35), (Str.ofString "_law_lead", .ref 231)]
theorem gl_ok {w : World} {p : Program} {loose : List Str} {mean : ExcName → Option Value} {mg mb : Str → Option Value} {h₀ : Heap} (X : (K w.params).In h₀) (T : Top p loose mean mg mb h₀) : GlOk PySem.Challenge.rw_uc0057_03.prog w h₀ glob := by
  revert X
  k_fill
  intro X x v hl A E L a cn cs cd cl m s Q pos hk hx hd F q
  have T' := topRead_of T
  have hm := lookup_in hl
  unfold glob at hm
  simp only [List.mem_cons, List.not_mem_nil, or_false, Prod.mk.injEq] at hm
  rcases hm with ⟨rfl, rfl⟩ | ⟨rfl, rfl⟩ | ⟨rfl, rfl⟩ | ⟨rfl, rfl⟩ | ⟨rfl, rfl⟩ | ⟨rfl, rfl⟩ | ⟨rfl, rfl⟩ | ⟨rfl, rfl⟩ | ⟨rfl, rfl⟩ | ⟨rfl, rfl⟩ | ⟨rfl, rfl⟩ | ⟨rfl, rfl⟩ | ⟨rfl, rfl⟩
  · exact nameX_K F X T' (by k_is) q hk hx hd
  · exact nameX_K F X T' (by k_is) q hk hx hd
  · exact nameX_K F X T' (by k_is) q hk hx hd
  · exact nameX_B F X T' (by k_is) (by boot_fast) (by decide) q hk hx hd
  · exact nameX_B F X T' (by k_is) (by boot_fast) (by decide) q hk hx hd
  · exact nameX_B F X T' (by k_is) (by boot_fast) (by decide) q hk hx hd
  · exact nameX_B F X T' (by k_is) (by boot_fast) (by decide) q hk hx hd
  · exact nameX_B F X T' (by k_is) (by boot_fast) (by decide) q hk hx hd
  · exact nameX_B F X T' (by k_is) (by boot_fast) (by decide) q hk hx hd
  · exact nameX_B F X T' (by k_is) (by boot_fast) (by decide) q hk hx hd
  · exact nameX_K F X T' (by k_is) q hk hx hd
  · exact nameX_K F X T' (by k_is) q hk hx hd
  · exact nameX_K F X T' (by k_is) q hk hx hd
end Uc
end
section
namespace Uc
structure CxOk (C : Cx) (p : Program) (loose : List Str) (mean : ExcName → Option Value) (mg mb : Str → Option Value) (pre : Heap → Prop) (d u : Nat) : Prop where
  gl : C.gl = glob
  X : (K C.w.params).In C.h₀
  T : Top p loose mean mg mb C.h₀
  ex : ∃ dp un gd outer A₀ base, C.prog = PySem.Challenge.rw_uc0057_03.prog ∧ C.A = ktrTop dp un gd C.cn C.cs C.L C.a C.cd C.cl outer ∧ Below A₀ base outer C.h₀ ∧ pre base ∧ dp + d < recursionLimit ∧ un + u < cLine
section
variable {C : Cx} {p : Program} {loose : List Str} {mean : ExcName → Option Value} {mg mb : Str → Option Value} {pre : Heap → Prop} {d u : Nat}
theorem CxOk.setQ {Q : Flow → Shared → Prop} (ok : CxOk C p loose mean mg mb pre d u) : CxOk (C.setQ Q) p loose mean mg mb pre d u := ⟨ok.gl, ok.X, ok.T, ok.ex⟩
theorem CxOk.call {m : Str → Option Value} {nw : Led} {f : Addr} {d' u' : Nat} {vs : List Value} {pre' : Heap → Prop} {R : Value → Led → Prop} {Q : Value → Shared → Prop} (ok : CxOk C p loose mean mg mb pre d u) (hc : Con C.w p loose mean mg mb f d' u' vs nw pre' R)
    (q : ∀ v nw', R v nw' → At C m nw' (Q v)) (hp' : ∀ h, pre h → pre' h := by exact fun _ _ => trivial) (hd : d' ≤ d := by decide) (hu : u' ≤ u := by decide) : At C m nw fun s => wpAny C.M C.A (call (.ref f) vs) Q C.E s := by
  obtain ⟨dp, un, gd, outer, A₀, base, hp, hA, B, hb, h1, h2⟩ := ok.ex
  intro h tk F N
  have := hc dp un gd C.cn C.cs C.a C.cd C.cl outer A₀ base C.h₀ C.L m (C.sg h tk) Q C.E B F ok.X N ok.T C.hk (hp' _ hb) (Nat.lt_of_le_of_lt (Nat.add_le_add_left hd dp) h1) (Nat.lt_of_le_of_lt (Nat.add_le_add_left hu un) h2) (fun v n h' tk' hr F' N' => q v n hr h' tk' F' N')
  unfold Cx.M
  rw [hp, hA]
  exact this
theorem FnOk.con {f : Str} {ad : Addr} {r : List PV → Rs} (ok : CxOk C p loose mean mg mb pre d u) (hg : glob.lookup f = some (.ref ad)) (hK : ∀ P, keepIn (K P) (.ref ad) = true) (hx : C.env.kindOf f = some .globalImplicit) (hd : (f == Str.ofString "__debug__") = false)
    (go : ∀ (m : Str → Option Value) (nw : Led) ps vs (Q : Value → Shared → Prop), VsDen ps vs → (r ps).holds (VK C m nw Q) → At C m nw fun s => wpAny C.M C.A (call (.ref ad) vs) Q C.E s) : FnOk C f r :=
  FnOk.of (by rw [ok.gl]; exact hg) hx hd ok.X (hK _) go
end
theorem keep_lev (P : Params) : keepIn (K P) (.ref 35) = true := rfl
theorem keep_sub (P : Params) : keepIn (K P) (.ref 28) = true := rfl
theorem keep_lead (P : Params) : keepIn (K P) (.ref 231) = true := rfl
end Uc
end
section
namespace Uc
section
variable {C : Cx} {m : Str → Option Value} {nw : Led} {tb : Tb} {rest : List Stmt} {ks : List (List Stmt)} {pos : Pos}
noncomputable def jnQ {σ : Type} (C : Cx) (led : σ → Led) (ps : σ → Nms) (P : σ → Prop) (K : Flow → Shared → Prop) (f : Flow) (s' : Shared) : Prop := match f with
  | .next => ∃ c' m' h' tk', s' = C.sg h' tk' ∧ Fr C.h₀ C.L h' m' ∧ News C.h₀ C.L h' (led c') ∧ Has m' (ps c') ∧ P c'
  | f => K f s'
theorem J.jn {σ : Type} {led : σ → Led} {ps : σ → Nms} {P : σ → Prop} {K : Flow → Shared → Prop} (c' : σ) (hk : Has m (ps c')) (hp : P c') (hs : ∀ p ∈ led c', p ∈ nw := by exact fun _ h => h) : J (C.setQ (jnQ C led ps P K)) m nw [] [] :=
  J.done fun h tk F N => ⟨c', m, h, tk, rfl, F, News.sub N hs, hk, hp⟩
theorem J.jl {σ : Type} {led : σ → Led} {ps : σ → Nms} {P : σ → Prop} {K : Flow → Shared → Prop} (c' : σ) (hs : led c' = nw) (hk : Has m (ps c')) (hp : P c') : J (C.setQ (jnQ C led ps P K)) m nw [] [] :=
  J.jn c' hk hp fun _ h => hs ▸ h
theorem if_x {t : PySem.Expr} {b o : List Stmt} {P : Flow → Shared → Prop} {p : Prop} (h : ∀ Q : Bool → Shared → Prop, BK C m nw Q p → At C m nw fun s => wpAny C.M C.A (isTrue t C.env (eval t C.env)) Q C.E s)
    (h1 : p → let C' := C.setQ P; J C' m nw b []) (h2 : ¬ p → let C' := C.setQ P; J C' m nw o []) : At C m nw fun s => wpAny C.M C.A (exec (.If t b o pos) C.env) P C.E s := by
  refine fun h0 tk F N => wpAny_If (h _ (fun c hc h' tk' F' N' => ?_) h0 tk F N)
  cases c with
  | true => rw [if_pos rfl]; exact h1 (hc.mp rfl) h' tk' F' N'
  | false => rw [if_neg (by decide)]; exact h2 (fun z => Bool.false_ne_true (hc.mpr z)) h' tk' F' N'
theorem ite_x {t : PySem.Expr} {b o : List Stmt} {P : Flow → Shared → Prop} (ht : TbOk C m nw tb) (h : (C.pB m tb t).holds fun p => (p → let C' := C.setQ P; J C' m nw b []) ∧ (¬ p → let C' := C.setQ P; J C' m nw o [])) :
    At C m nw fun s => wpAny C.M C.A (exec (.If t b o pos) C.env) P C.E s := by
  cases hp : C.pB m tb t with
  | bad => rw [hp] at h; exact h.elim
  | ok p => rw [hp] at h; exact if_x (fun Q q => (pv_all ht 30).2.1 t Q (by show (C.pB m tb t).holds _; rw [hp]; exact q)) h.1 h.2
  | cond c p => rw [hp] at h; exact if_x (fun Q q => (pv_all ht 30).2.1 t Q (by show (C.pB m tb t).holds _; rw [hp]; exact ⟨h.1, q⟩)) h.2.1 h.2.2
theorem At.gen {T : Shared → Prop} (l : Nms) (hk : Has m l) (h : ∀ u, At C (fm u l) nw T) : At C m nw T := by
  have := h m
  rwa [fm_eq hk] at this
theorem J.stepJ {σ : Type} {st : Stmt} (led : σ → Led) (ps : σ → Nms) (P : σ → Prop) (h : At C m nw fun s => wpAny C.M C.A (exec st C.env) (jnQ C led ps P (C.post (rest :: ks))) C.E s)
    (h2 : ∀ c u, P c → J C (fm u (ps c)) (led c) rest ks) : J C m nw (st :: rest) ks := by
  refine J.step fun h0 tk F N => wpAny_mono (h h0 tk F N) (fun f s' q => ?_) fun _ _ e => e
  cases f with
  | next =>
    (refine Uc.ex4 q fun c' m' h' tk' => Uc.an5 fun e1q F' N' hk' hp' => ?_; clear q; subst e1q)
    exact h2 c' m' hp' h' tk' (by rw [fm_eq hk']; exact F') N'
  | ret v => exact q
  | brk => exact q
  | cont => exact q
theorem J.iteJ {σ : Type} {t : PySem.Expr} {b o : List Stmt} (led : σ → Led) (ps : σ → Nms) (P : σ → Prop) (ht : TbOk C m nw tb)
    (h : (C.pB m tb t).holds fun p => (p → let C' := C.setQ (jnQ C led ps P (C.post (rest :: ks))); J C' m nw b []) ∧ (¬ p → let C' := C.setQ (jnQ C led ps P (C.post (rest :: ks))); J C' m nw o []))
    (h2 : ∀ c u, P c → J C (fm u (ps c)) (led c) rest ks) : J C m nw (.If t b o pos :: rest) ks := J.stepJ led ps P (ite_x ht h) h2
theorem J.app {x : Str} {e : PySem.Expr} {px pa pc : Pos} {D : Addr} {vs : List Value} {n : Nat} (ht : TbOk C m ((D, listOf vs.toArray n) :: nw) tb) (hx : pNm C.env m tb x = some (.ref D)) (he : plainArg e = true) (hne : ∀ p ∈ nw, p.1 ≠ D) (hl : vs.length ≤ 16777216)
    (hi : interactive C.env = false) (hs : swapsWith (.Call (.Attribute (.Name x px) "append" pa) [e] [] pc) none pos.line C.env = pure false)
    {pl : Sem Bool} (hm : eval (.Call (.Attribute (.Name x px) "append" pa) [e] [] pc) C.env = (do
      let ov ← eval (.Name x px) C.env
      standAt pa.atName
      let (f, first) ← holding [ov] (getMethod ov "append" pl)
      callWith pc f first (backTo pc (starEach [e] C.env)) []))
    (hb : (C.pV m tb e).holds fun v => ∀ t, J C m ((D, listOf (vs ++ [v.den t]).toArray (n + 1)) :: nw) rest ks) :
    J C m ((D, listOf vs.toArray n) :: nw) (.Expr (.Call (.Attribute (.Name x px) "append" pa) [e] [] pc) pos :: rest) ks := by
  refine J.step fun h tk F N => wpAny_Expr_any (MethodCall_ (nm_ok ht hx px _ (fun h1 tk1 F1 N1 => ?_) h tk F N) hm) hi hs
  refine PySem.Calls.getMethod_list_append (s := C.sg h1 tk1) (N1.get (.head _)) rfl rfl ?_
  refine callWith_method1 (args_cons ?_ (star1 he)) (star1 he)
  refine (pv_all ht 30).1 e _ (Rs.mono (fun v q t h2 tk2 F2 N2 => ?_) hb) _ _ F1 N1
  refine args_nil (append_K (s := C.sg h2 tk2) F2 N2 (.head hne) (fun h3 F3 N3 => ?_) ?_)
  · rw [List.push_toArray] at N3
    exact q t h3 tk2 F3 N3
  · show vs.toArray.size ≤ sizeLine
    rw [List.size_toArray]
    exact hl
theorem J.asg3 {x y z : Str} {e1 e2 e3 : PySem.Expr} {px py pz : Pos} {k k2 : Nat} {tp tp2 : Pos} (ht : TbOk C m nw tb) (h1 : plainArg e1 = true) (h2 : plainArg e2 = true) (h3 : plainArg e3 = true)
    (hw : swappedStores [.Tuple [.Name x px, .Name y py, .Name z pz] k tp] (.Tuple [e1, e2, e3] k2 tp2) C.env = pure (some [x, y, z])) (hx : C.env.kindOf x = some .local) (hy : C.env.kindOf y = some .local) (hz : C.env.kindOf z = some .local)
    (h : (C.pV m tb e1).holds fun v1 => (C.pV m tb e2).holds fun v2 => (C.pV m tb e3).holds fun v3 => ∀ t u r, J C (up (up (up m z (v3.den r)) y (v2.den u)) x (v1.den t)) nw rest ks) :
    J C m nw (.Assign [.Tuple [.Name x px, .Name y py, .Name z pz] k tp] (.Tuple [e1, e2, e3] k2 tp2) pos :: rest) ks := by
  refine J.step fun h0 tk F N => Assign_Tuple_swapped ?_ rfl hw
  refine Tuple_ (args_cons ?_ (star1 h1))
  refine (pv_all ht 30).1 e1 _ (Rs.mono (fun v1 q1 t g3 tk3 F3 N3 => ?_) h) _ _ F N
  refine args_cons ?_ (star1 h2)
  refine (pv_all ht 30).1 e2 _ (Rs.mono (fun v2 q2 u g4 tk4 F4 N4 => ?_) q1) _ _ F3 N3
  refine args_cons ?_ (star1 h3)
  refine (pv_all ht 30).1 e3 _ (Rs.mono (fun v3 q3 r g5 tk5 F5 N5 => ?_) q2) _ _ F4 N4
  refine args_nil (newTuple_N (s := C.sg g5 tk5) F5 N5 fun h5 F5 N5 => ?_)
  refine unpackItemsN_ (s := C.sg h5 tk5) F5 N5 (News.isTup N5 (.head _)) C.hh rfl fun h6 F6 N6 => ?_
  have N7 : News C.h₀ C.L h6 nw := News.sub N6 fun p hp => .tail _ hp
  refine assignInOrder_cons (bindName_ (storeX_L (s := C.sg h6 tk5) F6 N7 (fun h8 F8 N8 => ?_) C.hk hz))
  refine assignInOrder_cons (bindName_ (storeX_L (s := C.sg h8 (tk5 + 1)) F8 N8 (fun h9 F9 N9 => ?_) C.hk hy))
  refine assignInOrder_cons (bindName_ (storeX_L (s := C.sg h9 (tk5 + 1 + 1)) F9 N9 (fun h10 F10 N10 => ?_) C.hk hx))
  exact assignInOrder_nil (q3 t u r h10 _ F10 N10)
end
theorem CxOk.go {C : Cx} {p : Program} {loose : List Str} {mean : ExcName → Option Value} {mg mb : Str → Option Value} {pre pre' : Heap → Prop} {d u d' u' : Nat} {m : Str → Option Value} {nw : Led} {f : Addr} {vs : List Value} {R : Value → Led → Prop} {Q : Value → Shared → Prop} {h : Heap} {tk : Nat}
    (ok : CxOk C p loose mean mg mb pre d u) (hc : Con C.w p loose mean mg mb f d' u' vs nw pre' R) (F : Fr C.h₀ C.L h m) (N : News C.h₀ C.L h nw) (q : ∀ v nw', R v nw' → At C m nw' (Q v))
    (hp' : ∀ h, pre h → pre' h := by exact fun _ z => trivial) (hd : d' ≤ d := by decide) (hu : u' ≤ u := by decide) : wpAny C.M C.A (PySem.call (.ref f) vs) Q C.E (C.sg h tk) := ok.call hc q hp' hd hu h tk F N
end Uc
end
section
namespace Uc
noncomputable def rd_args : Arguments := by
  refine (fun (_ : f17_body[2]? = some (.Assign ?t (.Lambda ?a ?b ?s ?p) ?x)) => ?a) ?h
  exact rfl
noncomputable def rd_body : Expr := by
  refine (fun (_ : f17_body[2]? = some (.Assign ?t (.Lambda ?a ?b ?s ?p) ?x)) => ?b) ?h
  exact rfl
noncomputable def rd_scope : Scope := by
  refine (fun (_ : f17_body[2]? = some (.Assign ?t (.Lambda ?a ?b ?s ?p) ?x)) => ?s) ?h
  exact rfl
noncomputable def rdQual : Str := "_law_lexer.<locals>.<lambda>"
noncomputable def rdO (pm : Value) (CC RC : Addr) (ct : Value) : Obj := kla_obj "<lambda>" rdQual rd_args rd_body rd_scope [(Str.ofString "signs", CC)] pm RC ct
noncomputable abbrev fnO (fd : FuncData) (d : Option Addr) : Obj := ⟨.type "function", d, .func fd, #[]⟩
set_option genInjectivity false in
set_option genSizeOf false in
structure Lex where
  X : Addr
  D : Addr
  PB : Addr
  SF : Addr
  SD : Addr
  RF : Addr
  RC : Addr
  CC : Addr
  SG : Addr
  fd : FuncData
  pm : Value
  ct : Value
  oc : Obj
  oC : Obj
  vc : Array Value
  tq : Tok
  tw : Tok
  k0 : Tok
  k1 : Tok
  k2 : Tok
  k3 : Tok
  kr : Tok
noncomputable abbrev lexLed (w : World) (q : Lex) (ln : Int) (tl : Tok) (ps : List Value) (pn : Nat) (ss : List Value) (sn : Nat) : List (Addr × Obj) :=
  (q.X, instObj 73 q.D) :: (q.D, dictOf [{ hash := PyData.keyHash w.params (Str.ofString "lineno"), key := Value.str (Str.ofString "lineno") q.k0, val := .int ln tl },
    { hash := PyData.keyHash w.params (Str.ofString "instream"), key := Value.str (Str.ofString "instream") q.k1, val := .ref q.SF },
    { hash := PyData.keyHash w.params (Str.ofString "whitespace"), key := Value.str (Str.ofString "whitespace") q.k2, val := .str (Str.ofString "\n\t\r ") q.tw },
    { hash := PyData.keyHash w.params (Str.ofString "pushback"), key := Value.str (Str.ofString "pushback") q.k3, val := .ref q.PB }] 4) ::
  (q.PB, listOf ps.toArray pn) :: (q.SF, fnO q.fd (some q.SD)) ::
  (q.SD, dictOf [{ hash := PyData.keyHash w.params (Str.ofString "read"), key := Value.str (Str.ofString "read") q.kr, val := .ref q.RF }] 1) ::
  (q.RF, rdO q.pm q.CC q.RC q.ct) :: (q.RC, q.oc) :: (q.CC, q.oC) :: (q.SG, listOf ss.toArray sn) :: []
structure LexOk (q : Lex) (news : List (Addr × Obj)) : Prop where
  c1 : q.oc.data = .fields q.vc
  c2 : q.vc[1]? = some (.str rdQual q.tq)
  c3 : q.oC.data = .cell (some (.ref q.SG))
  o1 : q.CC < q.SG
  o2 : q.SG < q.SF
  o3 : q.SF < q.RC
  o4 : q.RC < q.RF
  o5 : q.RF < q.SD
  o6 : q.SD < q.D
  o7 : q.D < q.X
  o8 : q.X < q.PB
  n1 : ∀ p ∈ news, p.1 ≠ q.D
  n2 : ∀ p ∈ news, p.1 ≠ q.PB
  n3 : ∀ p ∈ news, p.1 ≠ q.SG
section
variable (w : World) (p : Program) (loose : List Str) (mean : ExcName → Option Value) (mg mb : Str → Option Value)
theorem read_c (news : List (Addr × Obj)) (q : Lex) (ln : Int) (tl : Tok) (ps : List Value) (pn : Nat) (ss : List Value) (sn : Nat) (ts : Tok) (sg : List Str) (hss : StrsAre ss sg) (hlen : ss.length ≤ 100000) (ok : LexOk q news) :
    Con w p loose mean mg mb q.RF 8 30 [.int 1 ts] (lexLed w q ln tl ps pn ss sn ++ news) (fun h => CodeHd h 213 209) (fun v n => ∃ sn' t, n = lexLed w q ln tl ps pn ss.tail sn' ++ news ∧ v = .str (sg.headD Str.empty) t) := by
  have o1 := ltN ok.o1
  have o2 := ltN ok.o2
  have o3 := ltN ok.o3
  have o4 := ltN ok.o4
  have o5 := ltN ok.o5
  have o6 := ltN ok.o6
  have o7 := ltN ok.o7
  have o8 := ltN ok.o8
  have n1 := ok.n1
  have n2 := ok.n2
  have n3 := ok.n3
  have c1 := ok.c1
  have c2 := ok.c2
  have c3 := ok.c3
  clear ok
  dsimp only [Con, Pm, lexLed, List.cons_append, List.nil_append]
  k_fill
  intros
  rename_i hret
  refine wpAny_call ?_
  k_dflt (refine' kla_code ?k1 ?k2 ?k3 ?k4 ?k5 ?kA ?kF ?kK ?k6 ?k7 ?k8 ?k9 ?kB ?_ ?c2 ?c3 ?c4 ?c5; (case kA => exact rfl); (case kF => exact rfl); (case kK => assumption); (case k1 => k_asm); (case k2 => k_asm); (case k3 => k_asm); (case k4 => k_asm); (case k5 => k_asm); (case k6 => k_mem); (case k7 => exact codeRec_news (by k_asm) (by k_mem) (by assumption) (by assumption)); (case k8 => ktr_room); (case k9 => exact rfl); (case c5 => decide); (case kB => exact locs rfl); (case c2 => exact rfl); (case c3 => exact rfl); (case c4 => exact rfl); k_whole; intro g' L' h' FG' F' N' B' X' T'; (try dsimp only); (try k_lift B'); (try k_fold))
  unfold rd_body rd_scope
  try (try dsimp only)
  repeat' (first | (walk_at "P") | (walk_at "F"; walk_at "T"))
  cases ss with
  | nil =>
    cases hss
    refine Uc.ne_nil_ff (by assumption) (by k_mem) (by k_mem) (by ktr_units) ?_
    repeat' (first | (walk_at "P") | (walk_at "F"; walk_at "T"))
    exact hret _ _ _ _ ⟨_, _, rfl, rfl⟩ (by assumption) (News.sub (by assumption) (by first | (intro _ h; first | exact h | exact .tail _ h | exact .tail _ (.tail _ h) | exact .tail _ (.tail _ (.tail _ h))) | ((with_reducible repeat (first | exact Uc.ledgR | refine Uc.ledgK ?_ | refine Uc.ledgD ?_)); done) | (intro _ h; simp only [List.mem_cons, List.mem_append, List.mem_singleton, List.not_mem_nil, or_false] at h ⊢; grind)))
  | cons s0 ss =>
    refine Uc.ne_nil_tt (by assumption) (by k_mem) (by k_mem) (by ktr_units) ?_
    repeat' (first | (walk_at "P") | (walk_at "F"; walk_at "T"))
    obtain ⟨y0, t0, ys, rfl, rfl, hvs⟩ : ∃ y0 t0 ys, s0 = Value.str y0 t0 ∧ sg = y0 :: ys ∧ StrsAre ss ys := by
      cases hss with
      | cons y t h => exact ⟨_, _, _, rfl, rfl, h⟩
    dsimp only [List.length_cons] at hlen
    have hsz : (Value.str y0 t0 :: ss).length ≤ sizeLine := Nat.le_trans hlen (by decide)
    refine kl_popAt (its := (Value.str y0 t0 :: ss).toArray) (k := 0) (p := []) (q := ss) (by assumption) (by assumption) rfl (by rw [List.size_toArray]; simp [seqIndex?]) rfl (by k_dflt k_upd) hsz ?_
    intro h' F' N'
    dsimp only [List.nil_append] at N'
    repeat' (first | (walk_at "P") | (walk_at "F"; walk_at "T"))
    exact hret _ _ _ _ ⟨_, _, rfl, rfl⟩ (by assumption) (News.sub (by assumption) (by first | (intro _ h; first | exact h | exact .tail _ h | exact .tail _ (.tail _ h) | exact .tail _ (.tail _ (.tail _ h))) | ((with_reducible repeat (first | exact Uc.ledgR | refine Uc.ledgK ?_ | refine Uc.ledgD ?_)); done) | (intro _ h; simp only [List.mem_cons, List.mem_append, List.mem_singleton, List.not_mem_nil, or_false] at h ⊢; grind)))
end
end Uc
end
section
namespace Uc
theorem slot_fn_sa : Slot "function" "__setattr__" "object.__setattr__" := .of (owner := "object") (n := "__setattr__") (by rw [typeLookup_type, builtinLookup_eq_fast]; kernel_rfl) (by decide +kernel) (by decide +kernel) (by decide +kernel)
    (by first | exact .inl (by decide +kernel) | exact .inr (by decide +kernel)) (by rw [isSubtype_type]; kernel_rfl)
theorem fn_mro : mroOf (.type "function") = pure [.type "function", .type "object"] := by kernel_rfl
theorem fn_passes (self : Value) : refuseLoop self "__setattr__" [.type "function", .type "object"] = pure () := by kernel_rfl
theorem fn_noread : typeLookup (.type "function") (Str.ofString "read") = pure none := by rw [typeLookup_type, builtinLookup_eq_fast]; kernel_rfl
section
variable {prog : Program} {w : World} {A : Around} {E : Value → Shared → Prop} {s : Shared} {h₀ : Heap} {L : Addr} {m : Str → Option Value}
theorem fn_setattr {x : Addr} {fd : FuncData} {name : Str} {v : Value} {pre post : List (Addr × Obj)} {Q : Unit → Shared → Prop} (F : Fr h₀ L s.heap m) (N : News h₀ L s.heap (pre ++ (x, fnO fd none) :: post))
    (h1 : ∀ p ∈ pre, p.1 ≠ x) (h2 : ∀ p ∈ post, p.1 ≠ x) (hname : typeLookup (.type "function") name = pure none)
    (h : ∀ h' d, Fr h₀ L h' m → News h₀ L h' ((d, dictOf [⟨PyData.keyHash w.params name, .str name (s.toks + 1), v⟩] 1) :: (pre ++ (x, fnO fd (some d)) :: post)) → (∀ p ∈ pre ++ (x, fnO fd none) :: post, p.1 < d) → Q () { s with heap := h', toks := s.toks + 2 }) :
    wpAny (model prog w) A (setAttr (.ref x) name v) Q E s := by
  have D := (N (x, fnO fd none) (by simp)).1
  have LT : Looks (model prog w) s.heap (typeOf (.ref x)) (.type "function") := (Looks.ld (part := some headPart) D).andThen .now
  refine wpAny_bind (wpAny_mkText (wpAny_bind (wpAny_bind (wpAny_bind (LT _ _ _ _ (fun _ _ e => e) ((Looks.of_pure slot_fn_sa.lookup (h := s.heap)) _ _ _ _ (fun _ _ e => e) (wpAny_holding ?_)))))))
  rw [slot_fn_sa.bind]
  refine wpAny_bind (wpAny_pure (wpAny_bind (wpAny_call (codeAny_mono (R := fun r s' => r = .ok (.ret .none) ∧ Q () s') ?_ fun r s' z => ?_))))
  rotate_left
  · obtain ⟨rfl, z⟩ := z
    exact wpAny_pure (wpAny_pure z)
  have SF := PySem.F.store_object
  refine codeAny_call_builtin SF.slot.plain SF.entry (slot_fn_sa.check _ _ _ _ _ _ _ _ ⟨_, D, rfl⟩ (SF.args _ _ _) ?_)
  show wpAny _ _ (Builtin.«object.__setattr__» ⟨[.ref x, .str name s.toks, v], []⟩) _ _ _
  rw [osa_eq, refuse_eq]
  refine wpAny_bind (wpAny_bind (LT _ _ _ _ (fun _ _ e => e) (wpAny_bind ?_)))
  rw [fn_mro]
  refine wpAny_pure ?_
  rw [fn_passes]
  refine wpAny_pure (wpAny_bind (LT _ _ _ _ (fun _ _ e => e) (wpAny_bind ?_)))
  rw [hname]
  refine wpAny_pure (wpAny_bind (wpAny_pure ?_))
  have ne : x ≠ s.heap.objs.size := Nat.ne_of_lt (Heap.lt_size D)
  have F1 := F.push (o := { cls := .type "dict", data := .dict #[] })
  have N1 : News h₀ L (s.heap.push { cls := .type "dict", data := .dict #[] }) (((s.heap.objs.size, { cls := .type "dict", data := .dict #[] }) :: pre) ++ (x, fnO fd none) :: post) := fun p hp => by
    rw [List.cons_append] at hp
    rcases List.mem_cons.mp hp with rfl | hp
    · exact ⟨Heap.get?_push_size _ rfl, fun e => absurd F.ns.lt (e ▸ Nat.lt_irrefl _), next_is_new F⟩
    · exact ⟨Heap.get?_push_of_some _ (N p hp).1, (N p hp).2⟩
  obtain ⟨F2, N2⟩ := news_upd (f := fun o => { o with dict := some s.heap.objs.size }) F1 N1 (fun p hp => by
    rcases List.mem_cons.mp hp with rfl | hp
    · exact ne.symm
    · exact h1 p hp) h2 (o' := fnO fd (some s.heap.objs.size)) rfl rfl
  have F3N3 := news_upd (pre := []) (f := Obj.putName name (PyData.keyHash w.params name) (.str name (s.toks + 1)) v) F2 (by rw [List.nil_append]; exact N2) (fun _ h => nomatch h) (fun p hp => by
    have hp' : p ∈ pre ++ (x, fnO fd (some s.heap.objs.size)) :: post := hp
    rcases List.mem_append.mp hp' with q | q
    · exact Nat.ne_of_lt (Heap.lt_size (N p (List.mem_append_left _ q)).1)
    · rcases List.mem_cons.mp q with rfl | q
      · exact ne
      · exact Nat.ne_of_lt (Heap.lt_size (N p (List.mem_append_right _ (.tail _ q))).1)) (o' := dictOf [⟨PyData.keyHash w.params name, .str name (s.toks + 1), v⟩] 1) (by
    show Obj.putName _ _ _ _ (dictOf [] 0) = _
    rw [putName_dict]; rfl) rfl
  obtain ⟨F3, N3⟩ := F3N3
  refine wpAny_bind (wpAny_pure (wpAny_bind (wpAny_bind (wpAny_loadPart D ?_))))
  (try dsimp only)
  refine wpAny_bind (wpAny_alloc ?_)
  refine wpAny_bind (wpAny_update (o := fnO fd none) (Heap.get?_push_of_some _ D) ?_)
  have D2 := (N2 (s.heap.objs.size, { cls := .type "dict", data := .dict #[] }) (.head _)).1
  have D3 := (N3 (s.heap.objs.size, dictOf [⟨PyData.keyHash w.params name, .str name (s.toks + 1), v⟩] 1) (by simp)).1
  show wpAny _ _ (dictMade (.type "function") x s.heap.objs.size) _ _ _
  refine wpAny_pure (a := some s.heap.objs.size) (wpAny_bind (wpAny_pure (wpAny_bind ?_)))
  unfold nsSet
  refine wpAny_bind (wpAny_bind (wpAny_askSetting (wpAny_pure (wpAny_bind (wpAny_mkText (wpAny_bind (wpAny_loadPart D2 ?_)))))))
  (try dsimp only)
  have c : ((!(#[] : Array DictEntry).any (·.key.isStr name) && (#[] : Array DictEntry).any (·.refKey))) = false := by simp
  rw [aRefKeyMayBeTheName_at, c]
  refine wpAny_updatePart D2 ?_
  refine wpAny_bind (wpAny_lookBehind D3 (pastItsLine_dict (by rw [List.size_toArray, sizeLine_eq]; exact Nat.le_add_left 1 16777216)) ?_)
  exact wpAny_pure ⟨rfl, h _ _ F3 N3 (fun p hp => by
    rcases List.mem_append.mp hp with q | q
    · exact Heap.lt_size (N p (List.mem_append_left _ q)).1
    · rcases List.mem_cons.mp q with rfl | q
      · exact Heap.lt_size D
      · exact Heap.lt_size (N p (List.mem_append_right _ (.tail _ q))).1)⟩
theorem fn_setattrU {x : Addr} {fd : FuncData} {name : Str} {v : Value} {news : List (Addr × Obj)} {g : Obj → List (Addr × Obj)} {Q : Unit → Shared → Prop} (F : Fr h₀ L s.heap m) (N : News h₀ L s.heap news) (U : UpdF x (fnO fd none) news g)
    (hname : typeLookup (.type "function") name = pure none)
    (h : ∀ h' d, Fr h₀ L h' m → News h₀ L h' ((d, dictOf [⟨PyData.keyHash w.params name, .str name (s.toks + 1), v⟩] 1) :: g (fnO fd (some d))) → (∀ p ∈ news, p.1 < d) → Q () { s with heap := h', toks := s.toks + 2 }) :
    wpAny (model prog w) A (setAttr (.ref x) name v) Q E s := by
  obtain ⟨own, rest, rfl, hg, h1, h2⟩ := U.split
  exact fn_setattr F N h1 h2 hname fun h' d F' N' l => h h' d F' (by rw [hg]; exact N') l
theorem slot_fn_ga : Slot "function" "__getattribute__" "object.__getattribute__" := .of (owner := "object") (n := "__getattribute__") (by rw [typeLookup_type, builtinLookup_eq_fast]; kernel_rfl) (by decide +kernel) (by decide +kernel) (by decide +kernel)
    (by first | exact .inl (by decide +kernel) | exact .inr (by decide +kernel)) (by rw [isSubtype_type]; kernel_rfl)
theorem fn_noga : typeLookup (.type "function") "__getattr__" = pure none := by rw [typeLookup_type, builtinLookup_eq_fast]; kernel_rfl
theorem fn_getattr {x d b : Addr} {fd : FuncData} {name : Str} {hs : Int} {k : Tok} {news : List (Addr × Obj)} {expr : Bool} {Q : Value → Shared → Prop} (N : News h₀ L s.heap news) (hx : (x, fnO fd (some d)) ∈ news)
    (hd : (d, dictOf [⟨hs, .str name k, .ref b⟩] 1) ∈ news) (hname : typeLookup (.type "function") name = pure none) (h : Q (.ref b) { s with toks := s.toks + 1 }) :
    wpAny (model prog w) A (getAttr (.ref x) name expr) Q E s := by
  have D := (N _ hx).1
  have D2 := (N _ hd).1
  have LT : Looks (model prog w) s.heap (typeOf (.ref x)) (.type "function") := (Looks.ld (part := some headPart) D).andThen .now
  have LL : lookIn name (dictOf [⟨hs, .str name k, .ref b⟩] 1) = some (some (.ref b)) := by
    unfold lookIn
    simp [dictOf, Value.isStr]
  unfold getAttr getAttrBy
  refine wpAny_bind (wpAny_mkText (wpAny_holding (wpAny_bind (LT _ _ _ _ (fun _ _ e => e) (wpAny_bind ?_)))))
  rw [slot_fn_ga.lookup]
  refine wpAny_pure ?_
  show wpAny _ _ (getAttrByItsOwn _ _ _ _ _ _) _ _ _
  refine wpAny_bind (m := hookBefore _) (wpAny_pure ?_)
  refine wpAny_bind (wpAny_attempt (wpAny_holding ?_))
  rw [show callGetattribute (.ref x) (.str name s.toks) (.builtin "object.__getattribute__") expr = boundAndCalled (.builtin "object.__getattribute__") (.ref x) (.str name s.toks) from by cases expr <;> rfl]
  unfold boundAndCalled
  rw [slot_fn_ga.bind]
  refine wpAny_bind (wpAny_pure (wpAny_call (codeAny_mono (R := fun r s' => r = .ok (.ret (.ref b)) ∧ s' = { s with toks := s.toks + 1 }) ?_ fun r s' z => ?_)))
  rotate_left
  · obtain ⟨rfl, rfl⟩ := z
    exact wpAny_pure h
  refine codeAny_call_builtin slot_fn_ga.plain PySem.F.entry_object_getattribute (slot_fn_ga.check _ _ _ _ _ _ _ _ ⟨_, D, rfl⟩ (PySem.F.args_object_getattribute_2 _ _) ?_)
  show wpAny _ _ (Builtin.«object.__getattribute__» ⟨[.ref x, .str name s.toks], []⟩) _ _ _
  unfold Builtin.«object.__getattribute__»
  refine wpAny_bind (m := slotArgs _ _ _) (wpAny_pure ?_)
  refine wpAny_bind (m := Builtin.ObjectAttr.attrName _) (wpAny_pure (wpAny_bind (LT _ _ _ _ (fun _ _ e => e) (wpAny_bind ?_))))
  unfold Builtin.ObjectAttr.find
  rw [hname]
  refine wpAny_bind (wpAny_pure (wpAny_bind (m := Builtin.ObjectAttr.getOf _) (wpAny_pure (wpAny_bind (m := Builtin.ObjectAttr.dataDescriptor? _ _) (wpAny_pure ?_)))))
  show wpAny _ _ (Builtin.ObjectAttr.ownThenClass _ _ _ _) _ _ _
  unfold Builtin.ObjectAttr.ownThenClass Builtin.ObjectAttr.inOwnDict Builtin.ObjectAttr.ownDict
  refine wpAny_bind (wpAny_bind (wpAny_bind (wpAny_loadPart D ?_)))
  refine wpAny_bind (wpAny_loadPart D ?_)
  refine wpAny_pure ?_
  refine wpAny_bind (wpAny_loadPart D2 ?_)
  rw [nsLook_of LL]
  refine wpAny_pure (wpAny_bind (wpAny_rule (wpAny_pure ?_)))
  exact wpAny_pure ⟨rfl, rfl⟩
theorem fn_getMethod {x d b : Addr} {fd : FuncData} {name : Str} {hs : Int} {k : Tok} {news : List (Addr × Obj)} {pl : Sem Bool} {Q : Value × List Value → Shared → Prop} (N : News h₀ L s.heap news) (hx : (x, fnO fd (some d)) ∈ news)
    (hd : (d, dictOf [⟨hs, .str name k, .ref b⟩] 1) ∈ news) (hname : typeLookup (.type "function") name = pure none) (h : Q (.ref b, []) { s with toks := s.toks + 1 }) :
    wpAny (model prog w) A (getMethod (.ref x) name pl) Q E s := by
  have D := (N _ hx).1
  have LT : Looks (model prog w) s.heap (typeOf (.ref x)) (.type "function") := (Looks.ld (part := some headPart) D).andThen .now
  unfold getMethod
  refine wpAny_bind (wpAny_bind (LT _ _ _ _ (fun _ _ e => e) ?_))
  rw [slot_fn_ga.lookup]
  refine wpAny_pure ?_
  show wpAny _ _ (if _ then _ else _) _ _ _
  rw [if_neg (by decide +kernel)]
  refine wpAny_bind (wpAny_bind (LT _ _ _ _ (fun _ _ e => e) ?_))
  rw [fn_noga]
  refine wpAny_pure ?_
  refine wpAny_bind (wpAny_bind (LT _ _ _ _ (fun _ _ e => e) ?_))
  rw [hname]
  refine wpAny_pure ?_
  refine wpAny_bind (fn_getattr N hx hd hname ?_)
  exact wpAny_pure h
end
end Uc
end
section
namespace Uc
noncomputable abbrev ConC (w : World) (p : Program) (loose : List Str) (mean : ExcName → Option Value) (mg mb : Str → Option Value) (f : Addr) (d u : Nat) (vs : List Value) (news : List (Addr × Obj)) (pre : Heap → Prop) (R : Value → List (Addr × Obj) → Prop) : Prop :=
  ∀ (dp un : Nat) (gd : Option (List Code)) (cn : Str) (cs : Scope) (a : Addr) (ccd : Value) (cl : List (Str × Addr)) (outer : List Env) (A₀ : Around) (base h₀ : Heap) (L : Addr) (m : Str → Option Value) (s : Shared) (Q E : Value → Shared → Prop),
    Below A₀ base outer h₀ → Fr h₀ L s.heap m → (K w.params).In h₀ → News h₀ L s.heap news → Top p loose mean mg mb h₀ → cs.kind = .function → pre base → dp + d < recursionLimit → un + u < cLine →
    (∀ v news' h' tk', R v news' → Fr h₀ L h' m → News h₀ L h' news' → Q v { s with heap := h', toks := tk' }) →
    codeAny (model Pm w) (ktrTop dp un gd cn cs L a ccd cl outer) (.call (.ref f) ⟨vs, []⟩) (fun r s' => match r with | .ok (.ret v) => Q v s' | .ok _ => False | .error e => E e s') s
theorem ConC.con {w : World} {p : Program} {loose : List Str} {mean : ExcName → Option Value} {mg mb : Str → Option Value} {f : Addr} {d u : Nat} {vs : List Value} {news : List (Addr × Obj)} {pre : Heap → Prop} {R : Value → List (Addr × Obj) → Prop} (h : ConC w p loose mean mg mb f d u vs news pre R) : Con w p loose mean mg mb f d u vs news pre R :=
  fun dp un gd cn cs a ccd cl outer A₀ base h₀ L m s Q E a1 a2 a3 a4 a5 a6 a7 a8 a9 a10 => wpAny_call (h dp un gd cn cs a ccd cl outer A₀ base h₀ L m s Q E a1 a2 a3 a4 a5 a6 a7 a8 a9 a10)
section
variable (w : World) (p : Program) (loose : List Str) (mean : ExcName → Option Value) (mg mb : Str → Option Value)
theorem read_charC (news : List (Addr × Obj)) (q : Lex) (ln : Int) (tl : Tok) (ps : List Value) (pn : Nat) (ss : List Value) (sn : Nat) (sg : List Str) (hss : StrsAre ss sg) (hlen : ss.length ≤ 100000) (hln : 0 ≤ ln ∧ ln ≤ 1000000) (ok : LexOk q news) :
    ConC w p loose mean mg mb 56 12 40 [.ref q.X] (lexLed w q ln tl ps pn ss sn ++ news) (fun h => CodeHd h 213 209) (fun v n => ∃ tl' sn' t, n = lexLed w q (if sg.headD Str.empty = Str.ofString "\n" then ln + 1 else ln) tl' ps pn ss.tail sn' ++ news ∧ v = .str (sg.headD Str.empty) t) := by
  have o1 := ltN ok.o1
  have o2 := ltN ok.o2
  have o3 := ltN ok.o3
  have o4 := ltN ok.o4
  have o5 := ltN ok.o5
  have o6 := ltN ok.o6
  have o7 := ltN ok.o7
  have o8 := ltN ok.o8
  have n1 := ok.n1
  have n2 := ok.n2
  have n3 := ok.n3
  dsimp only [ConC, Pm, lexLed, List.cons_append, List.nil_append]
  k_fill
  intros
  rename_i hret
  k_dflt cell_enter
  repeat' (first | (walk_at "P") | (walk_at "F"; first | (((with_reducible show wpAny _ _ (getMethod (Value.ref _) (Str.ofString "read") _) _ _ _); (refine Uc.fn_getMethod (by assumption) (by k_dflt k_mem) (by k_dflt k_mem) Uc.fn_noread ?_))) | (walk_at "T")))
  (refine read_c w p loose mean mg mb news q ln tl ps pn ss sn _ sg hss hlen ok _ _ _ _ _ _ _ _ _ _ _ _ _ _ _ _ _ (by assumption) (by assumption) (by assumption) (by assumption) (by assumption) (by first | assumption | rfl) ?pre (by first | assumption | exact Uc.room3 (by assumption) (by decide) | exact Uc.room2 (by assumption) (by decide) | ktr_room) (by first | assumption | exact Uc.room3 (by assumption) (by decide) | exact Uc.room2 (by assumption) (by decide) | ktr_units) ?_); (case pre => first | exact trivial | assumption)
  first | refine kE2nv ?_ | refine kE2vn ?_
  intro sn' t' h' tk' F N
  dsimp only [lexLed, List.cons_append, List.nil_append] at N
  repeat' (first | (walk_at "P") | (walk_at "F"; walk_at "T"))
  · rename (_ == _) = true => hc
    rw [if_pos (beq_iff_eq.mp hc)] at hret
    exact hret _ _ _ _ ⟨_, _, _, rfl, rfl⟩ (by assumption) (by assumption)
  · rename (_ == _) = false => hc
    rw [if_neg (beq_eq_false_iff_ne.mp hc)] at hret
    exact hret _ _ _ _ ⟨_, _, _, rfl, rfl⟩ (by assumption) (by assumption)
end
end Uc
end
section
namespace Uc
noncomputable abbrev itO (q : Addr) (t : Tok) : Obj := { cls := .type "callable_iterator", data := .fields #[.ref q, .str (Str.ofString "") t, .bool false] }
noncomputable abbrev itE : Obj := { cls := .type "callable_iterator", data := .fields #[.none, .none, .bool true] }
theorem slot_ci_next : Slot "callable_iterator" "__next__" "callable_iterator.__next__" := .of (owner := "callable_iterator") (n := "__next__") (by rw [typeLookup_type, builtinLookup_eq_fast]; kernel_rfl) (by decide +kernel) (by decide +kernel) (by decide +kernel)
    (by first | exact .inl (by decide +kernel) | exact .inr (by decide +kernel)) (by rw [isSubtype_type]; kernel_rfl)
theorem entry_ci_next : entryFor table "callable_iterator.__next__" = some Builtin.«callable_iterator.__next__» := entryFor_of_tree (by kernel_rfl)
theorem args_ci_next (a : Value) : argsOk "callable_iterator.__next__" ⟨[a], []⟩ := by unfold argsOk; kernel_rfl
theorem entry_iter : entryFor table "iter" = some Builtin.«iter» := entryFor_of_tree (by kernel_rfl)
theorem args_iter2 (a b : Value) : argsOk "iter" ⟨[a, b], []⟩ := by unfold argsOk; kernel_rfl
theorem meth_call : ∃ v, typeLookup (.type "method") "__call__" = pure (some v) := ⟨.builtin "method.__call__", by rw [typeLookup_type, builtinLookup_eq_fast]; kernel_rfl⟩
section
variable {prog : Program} {w : World} {A : Around} {E : Value → Shared → Prop} {s : Shared} {h₀ : Heap} {L : Addr} {m : Str → Option Value}
theorem iter_make {q : Addr} {f x : Value} {t : Tok} {y : Str} {news : List (Addr × Obj)} {Q : Value → Shared → Prop} (F : Fr h₀ L s.heap m) (N : News h₀ L s.heap news) (hq : (q, methodObj f x) ∈ news)
    (h : ∀ h' I, Fr h₀ L h' m → News h₀ L h' ((I, { cls := .type "callable_iterator", data := .fields #[.ref q, .str y t, .bool false] }) :: news) → (∀ p ∈ news, p.1 < I) → Q (.ref I) { s with heap := h' }) :
    wpAny (model prog w) A (call (.builtin "iter") [.ref q, .str y t]) Q E s := by
  have D := (N _ hq).1
  have LT : Looks (model prog w) s.heap (typeOf (.ref q)) (.type "method") := (Looks.ld (part := some headPart) D).andThen .now
  obtain ⟨mc, hmc⟩ := meth_call
  refine PySem.Calls.call_function_entry (by decide +kernel) (by decide +kernel) entry_iter (args_iter2 _ _) ?_
  unfold Builtin.«iter»
  refine wpAny_bind (m := someArgs _ _ _ _) (wpAny_pure ?_)
  (try dsimp only)
  refine wpAny_bind (wpAny_bind (LT _ _ _ _ (fun _ _ e => e) ?_))
  rw [hmc]
  refine wpAny_pure ?_
  refine wpAny_bind (wpAny_rule (wpAny_bind ?_))
  refine wpAny_newObj_type (wpAny_pure ⟨_, rfl, h _ _ (F.push _) (fun p hp => ?_) fun p hp => Heap.lt_size (N p hp).1⟩) (by size_fits)
  rcases List.mem_cons.mp hp with rfl | hp
  · exact ⟨Heap.get?_push_size _ rfl, fun e => absurd F.ns.lt (e ▸ Nat.lt_irrefl _), next_is_new F⟩
  · exact ⟨Heap.get?_push_of_some _ (N p hp).1, (N p hp).2⟩
theorem iter_make2 {q : Addr} {f x : Value} {t : Tok} {rest : List (Addr × Obj)} {Q : Value → Shared → Prop} (F : Fr h₀ L s.heap m) (N : News h₀ L s.heap ((q, methodObj f x) :: rest)) (hl : AllLt q rest)
    (h : ∀ q₀ t₀ h' I, Fr h₀ L h' m → News h₀ L h' ((I, itO q₀ t₀) :: (q₀, methodObj f x) :: rest) → AllLt q₀ rest → q₀ < I → Q (.ref I) { s with heap := h' }) :
    wpAny (model prog w) A (call (.builtin "iter") [.ref q, .str (Str.ofString "") t]) Q E s :=
  iter_make F N (.head _) fun h' I F' N' l => h q t h' I F' N' hl (l _ (.head _))
theorem wpAny_borrowed {M : Model} {f : Value} {pos : List Value} {Q : Value → Shared → Prop} (hc : codeAny M A (.call f ⟨pos, []⟩) (fun r s' => match r with | .ok (.ret v) => Q v s' | .ok _ => False | .error e => E e s') s) :
    wpAny M A (callBorrowed f pos) Q E s := fun Γ p hΓ => by
  unfold callBorrowed
  rw [Sem.wp_call]
  refine wpCode_mono (fun r s' h => ?_) (hc _ p rfl (hΓ.enter _ none p (by intro x; cases x)))
  cases r with
  | error e => exact h
  | ok f => cases f with
    | ret v => exact h
    | _ => exact h.elim
theorem meth_borrows {q f : Addr} {x : Value} {fo : Obj} {fd : FuncData} {M : Model} {Q : Bool → Shared → Prop} (hq : s.heap.get? q = some (methodObj (.ref f) x)) (hf : s.heap.get? f = some fo) (hd : fo.data = .func fd) (h : Q true s) :
    wpAny M A (borrowsExactly (.ref q)) Q E s := by
  unfold borrowsExactly
  refine wpAny_bind (wpAny_load hq ?_)
  (try dsimp only)
  rw [if_pos (by decide)]
  refine wpAny_bind (wpAny_load hf ?_)
  rw [hd]
  exact wpAny_pure h
theorem stop_it {α : Type} {M : Model} {Q : α → Shared → Prop} (hh : A.handled = none) (h : ∀ h' e, (∀ b o, s.heap.get? b = some o → h'.get? b = some o) → ({ s with heap := h' } : Shared).TypeIs (.ref e) "StopIteration" → E (.ref e) { s with heap := h' }) :
    wpAny M A (newExc (.type "StopIteration") [] >>= fun e => (raiseNew e : Sem α)) Q E s := by
  refine wpAny_bind ?_
  simp only [newExc, newTuple]
  refine wpAny_bind (wpAny_newObj_type ?_ (by size_fits))
  refine wpAny_bind (m := firstArgMember _ _) (wpAny_of_eq (a := Value.none) (by first | rfl | (simp only [firstArgMember]; rfl)) ?_)
  refine wpAny_newObj_type ?_ (by size_fits)
  simp only [raiseNew]
  refine wpAny_bind (wpAny_handled ?_)
  rw [hh]
  refine wpAny_bind (wpAny_pure (wpAny_throw ?_))
  exact h _ _ (fun b o e => Heap.get?_push_of_some _ (Heap.get?_push_of_some _ e)) ⟨_, Heap.get?_push_size _ rfl, rfl⟩
theorem next_dead {I : Addr} {Q : Option Value → Shared → Prop} (hh : A.handled = none) (hI : s.heap.get? I = some itE) (h : ∀ h', (∀ b o, s.heap.get? b = some o → h'.get? b = some o) → Q none { s with heap := h' }) :
    wpAny (model prog w) A (pyNext (.ref I)) Q E s := by
  have hT : s.TypeIs (.ref I) "callable_iterator" := ⟨_, hI, rfl⟩
  unfold pyNext
  refine wpAny_bind (wpAny_attempt (wpAny_callSpecial?_slot (name := Str.ofString "__next__") hT slot_ci_next (wpAny_call_entry slot_ci_next hT entry_ci_next ?_ (args_ci_next _))))
  unfold Builtin.«callable_iterator.__next__»
  refine wpAny_bind (m := slotArgs _ _ _) (wpAny_pure ?_)
  refine wpAny_bind (wpAny_field hI rfl (x := .bool true) rfl ?_)
  show wpAny _ _ (if _ then _ else _) _ _ _
  rw [if_pos (by decide)]
  refine wpAny_bind (wpAny_rule ?_)
  refine wpAny_bind ?_
  refine stop_it (A := A.in1) hh fun h' e hk hT' => ?_
  refine wpAny_bind (wpAny_isInstance (T := "StopIteration") (b := true) hT' isSubtype_stop ?_)
  exact wpAny_pure (h _ hk)
theorem next_live {I q f : Addr} {x : Value} {t : Tok} {fo : Obj} {fd : FuncData} {Q : Option Value → Shared → Prop} (hh : A.handled = none) (hI : s.heap.get? I = some (itO q t)) (hq : s.heap.get? q = some (methodObj (.ref f) x)) (hf : s.heap.get? f = some fo) (hd : fo.data = .func fd)
    (h : codeAny (model prog w) A.in1 (.call (.ref f) ⟨[x], []⟩) (fun r s' => ∃ y u, r = .ok (.ret (.str y u)) ∧ s'.heap.get? I = some (itO q t) ∧ s'.heap.get? q = some (methodObj (.ref f) x) ∧ s'.heap.get? f = some fo ∧
      (y ≠ Str.ofString "" → Q (some (.str y u)) s') ∧ (y = Str.ofString "" → ∀ h', (∀ b o, b ≠ I → s'.heap.get? b = some o → h'.get? b = some o) → h'.get? I = some itE → Q none { s' with heap := h' })) s) :
    wpAny (model prog w) A (pyNext (.ref I)) Q E s := by
  have hT : s.TypeIs (.ref I) "callable_iterator" := ⟨_, hI, rfl⟩
  unfold pyNext
  refine wpAny_bind (wpAny_attempt (wpAny_callSpecial?_slot (name := Str.ofString "__next__") hT slot_ci_next (wpAny_call_entry slot_ci_next hT entry_ci_next ?_ (args_ci_next _))))
  unfold Builtin.«callable_iterator.__next__»
  refine wpAny_bind (m := slotArgs _ _ _) (wpAny_pure ?_)
  refine wpAny_bind (wpAny_field hI rfl (x := .bool false) rfl ?_)
  show wpAny _ _ (if _ then _ else _) _ _ _
  rw [if_neg (by decide)]
  refine wpAny_bind (wpAny_field hI rfl (x := .ref q) rfl ?_)
  refine wpAny_bind (wpAny_attempt ?_)
  unfold callOutOfASlot
  refine wpAny_bind (meth_borrows hq hf hd ?_)
  rw [if_pos rfl]
  refine wpAny_borrowed (method_call hq (codeAny_mono h fun r s' z => ?_))
  (refine Uc.ex2 z fun y u => Uc.an6 fun e1q hI' hq' hf' z1 z2 => ?_; clear z; subst e1q)
  (try dsimp only)
  refine wpAny_bind (wpAny_field hI' rfl (x := .bool false) rfl ?_)
  show wpAny _ _ (if _ then _ else _) _ _ _
  rw [if_neg (by decide)]
  refine wpAny_bind (wpAny_field hI' rfl (x := .str (Str.ofString "") t) rfl ?_)
  refine wpAny_bind (wpAny_holding (eqBool_str ?_))
  by_cases hy : y = Str.ofString ""
  · subst hy
    rw [show (!(Str.ofString "" == Str.ofString "")) = false from by simp]
    rw [if_neg (by decide)]
    refine wpAny_bind (wpAny_rule ?_)
    refine wpAny_bind ?_
    show wpAny _ _ (field (.ref I) 0 >>= _) _ _ _
    refine wpAny_bind (wpAny_field hI' rfl (x := .ref q) rfl ?_)
    refine wpAny_bind ?_
    unfold slotLetsGo
    (try dsimp only)
    refine wpAny_bind (meth_borrows hq' hf' hd ?_)
    rw [if_pos rfl]
    refine wpAny_pure ?_
    refine wpAny_bind (wpAny_setField hI' rfl (Nat.lt_of_sub_eq_succ rfl) ?_)
    have h1 := Heap.get?_update_self (Obj.mapFields (·.setIfInBounds 0 .none)) hI' rfl
    refine wpAny_bind (wpAny_setField h1 rfl (Nat.lt_of_sub_eq_succ rfl) ?_)
    have h2 := Heap.get?_update_self (Obj.mapFields (·.setIfInBounds 1 .none)) h1 rfl
    refine wpAny_setField h2 rfl (Nat.lt_of_sub_eq_succ rfl) ?_
    have h3 := Heap.get?_update_self (Obj.mapFields (·.setIfInBounds 2 (.bool true))) h2 rfl
    refine stop_it (A := A.in1) hh fun h' e hk hT' => ?_
    refine wpAny_bind (wpAny_isInstance (T := "StopIteration") (b := true) hT' isSubtype_stop ?_)
    refine wpAny_pure (z2 rfl h' (fun b o hb e => hk _ _ ?_) (hk _ _ h3))
    exact (Heap.get?_update_ne _ _ _ _ hb).trans ((Heap.get?_update_ne _ _ _ _ hb).trans ((Heap.get?_update_ne _ _ _ _ hb).trans e))
  · rw [show (!(Str.ofString "" == y)) = true from by simp; exact fun e => hy e.symm]
    rw [if_pos rfl]
    exact wpAny_pure ⟨_, rfl, wpAny_pure (z1 hy)⟩
theorem slot_ci_iter : Slot "callable_iterator" "__iter__" "callable_iterator.__iter__" := .of (owner := "callable_iterator") (n := "__iter__") (by rw [typeLookup_type, builtinLookup_eq_fast]; kernel_rfl) (by decide +kernel) (by decide +kernel) (by decide +kernel)
    (by first | exact .inl (by decide +kernel) | exact .inr (by decide +kernel)) (by rw [isSubtype_type]; kernel_rfl)
theorem entry_ci_iter : entryFor table "callable_iterator.__iter__" = some Builtin.«dict_keyiterator.__iter__» := 
  entryFor_alias (id' := "dict_keyiterator.__iter__") (by kernel_rfl) (by first | rfl | decide +kernel | (unfold String.splitOn; simp +decide [String.splitOnAux])) (by decide +kernel) (by kernel_rfl)
theorem args_ci_iter (a : Value) : argsOk "callable_iterator.__iter__" ⟨[a], []⟩ := by unfold argsOk; kernel_rfl
theorem ci_self {I : Addr} {Q : Value → Shared → Prop} (hT : s.TypeIs (.ref I) "callable_iterator") (h : Q (.ref I) s) : wpAny (model prog w) A (pyIter (.ref I)) Q E s := by
  refine wpAny_pyIter_slot hT slot_ci_iter (wpAny_call_entry slot_ci_iter hT entry_ci_iter ?_ (args_ci_iter _))
  show wpAny _ _ (ret (.ref I)) _ _ s
  exact wpAny_pure ⟨_, rfl, "callable_iterator", _, hT, slot_ci_next.lookup, h⟩
theorem for_own {env : Env} {Q : Flow → Shared → Prop} {σ : Type} {x : Str} {px : Pos} {body : List Stmt} {m₀ : Str → Option Value} (I : Addr) (led : σ → Led) (ps : σ → Nms) (P : σ → Prop) (Y : Value → σ → Prop) (Z : σ → Prop) (μ : σ → Nat) (c₀ : σ)
    (hx : env.kindOf x = some .local) (hp' : (env.scope.kind == .class || (env.scope.kind == .module && env.locals != env.globals)) = false)
    (F : Fr h₀ env.locals s.heap m₀) (N : News h₀ env.locals s.heap (led c₀)) (hk : Has m₀ (ps c₀)) (hp : P c₀)
    (turn : ∀ (c : σ) (u : Str → Option Value) h tk, P c → Fr h₀ env.locals h (fm u (ps c)) → News h₀ env.locals h (led c) →
      wpAny (model prog w) A (pyNext (.ref I)) (fun r s₂ => match r with
        | none => Got h₀ env.locals led ps Z s s₂
        | some v => Got h₀ env.locals led ps (fun c' => Y v c' ∧ μ c' < μ c) s s₂) E { s with heap := h, toks := tk })
    (bodyT : ∀ (c : σ) v (u : Str → Option Value) h tk, Y v c → Fr h₀ env.locals h (fun y => if y = x then some v else fm u (ps c) y) → News h₀ env.locals h (led c) →
      wpAny (model prog w) A (execs body env) (fun f s' => match f with
        | .ret v => Q (.ret v) s'
        | .brk => Q .next s'
        | _ => Got h₀ env.locals led ps (fun c' => P c' ∧ μ c' ≤ μ c) s s') E { s with heap := h, toks := tk })
    (done : ∀ c u h tk, Z c → Fr h₀ env.locals h (fm u (ps c)) → News h₀ env.locals h (led c) → Q .next { s with heap := h, toks := tk })
    (hE : PassesOwn (model prog w) A env E) :
    codeAny (model prog w) A (.forLoop (.Name x px) (.ref I) body [] env) (fun r s' => match r with | .ok f => Q f s' | .error e => cameBackBy (model prog w) A env E e s') s := by
  refine codeAny_forLoop (fun k s' => ∃ c, Got h₀ env.locals led ps (fun c' => c' = c ∧ P c) s s' ∧ μ c = k) ?_ (μ c₀) ⟨c₀, ⟨c₀, m₀, s.heap, s.toks, rfl, F, N, hk, rfl, hp⟩, rfl⟩
  intro k s' w1q; (refine Uc.ex1 w1q fun c => Uc.an2 fun w2q e1q => ?_; clear w1q; subst e1q); (refine Uc.ex4 w2q fun c' m' h' tk' => Uc.an6 fun e1q F' N' hk' e2q hp1 => ?_; clear w2q; subst e1q; subst e2q)
  refine wpAny_mono (wpAny_passesOwn hE (turn c' m' h' tk' hp1 (by rw [fm_eq hk']; exact F') N')) (fun r s₂ q => ?_) fun _ _ e => e
  cases r with
  | none =>
    (refine Uc.ex4 q fun c₂ m₂ h₂ tk₂ => Uc.an5 fun e1q F₂ N₂ hk₂ hz => ?_; clear q; subst e1q)
    exact wpAny_execs_nil (done c₂ m₂ h₂ tk₂ hz (by rw [fm_eq hk₂]; exact F₂) N₂)
  | some v =>
    (refine Uc.ex4 q fun c₂ m₂ h₂ tk₂ => Uc.an6 fun e1q F₂ N₂ hk₂ hy hlt => ?_; clear q; subst e1q)
    refine wpAny_assign_Name (wpAny_storeName_local hx F₂.ns (fun h₃ hn₃ hs₃ => ?_) hp')
    refine wpAny_mono (wpAny_passesOwn hE (bodyT c₂ v m₂ h₃ _ hy (by rw [fm_eq hk₂]; exact F₂.set hn₃ hs₃) (N₂.set hs₃))) (fun f s₃ q => ?_) fun _ _ e => e
    have go : Got h₀ env.locals led ps (fun c' => P c' ∧ μ c' ≤ μ c₂) s s₃ → ∃ m, m < μ c' ∧ ∃ c, Got h₀ env.locals led ps (fun c' => c' = c ∧ P c) s s₃ ∧ μ c = m := fun q => by
      (refine Uc.ex4 q fun c₄ m₄ h₄ tk₄ => Uc.an6 fun e1q F₄ N₄ hk₄ hp₄ hle => ?_; clear q; subst e1q)
      exact ⟨μ c₄, Nat.lt_of_le_of_lt hle hlt, c₄, ⟨c₄, m₄, h₄, tk₄, rfl, F₄, N₄, hk₄, rfl, hp₄⟩, rfl⟩
    cases f with
    | ret v => exact q
    | brk => exact q
    | next => exact go q
    | cont => exact go q
end
end Uc
end
section
namespace Uc
noncomputable def isWs (c : Nat) : Bool := c == 10 || c == 9 || c == 13 || c == 32
noncomputable def qGo : List Nat → List Nat → List Nat × List Nat
  | [], acc => (acc, [])
  | c :: r, acc => if c = 34 then (acc, r) else if c = 92 then (match r with
    | [] => (acc, [])
    | d :: r' => qGo r' (acc ++ [d])) else qGo r (acc ++ [c])
noncomputable def bGo : List Nat → List Nat → List Nat × List Nat
  | [], acc => (acc, [])
  | c :: r, acc => if isWs c then (acc, r) else if c = 92 then (match r with
    | [] => (acc, [])
    | d :: r' => bGo r' (acc ++ [d])) else bGo r (acc ++ [c])
noncomputable def tokGo : List Nat → List Nat × List Nat
  | [] => ([], [])
  | c :: r => if isWs c then tokGo r else if c = 34 then qGo r [] else if c = 92 then (match r with
    | [] => ([], [])
    | d :: r' => bGo r' [d]) else bGo r [c]
theorem tok_eq (c : Nat) (r : List Nat) : tokGo (c :: r) = if isWs c then tokGo r else if c = 34 then qGo r [] else if c = 92 then (match r with
    | [] => ([], [])
    | d :: r' => bGo r' [d]) else bGo r [c] := by
  cases r <;> rfl
theorem q_eq (c : Nat) (r acc : List Nat) : qGo (c :: r) acc = if c = 34 then (acc, r) else if c = 92 then (match r with
    | [] => (acc, [])
    | d :: r' => qGo r' (acc ++ [d])) else qGo r (acc ++ [c]) := by
  cases r <;> rfl
theorem b_eq (c : Nat) (r acc : List Nat) : bGo (c :: r) acc = if isWs c then (acc, r) else if c = 92 then (match r with
    | [] => (acc, [])
    | d :: r' => bGo r' (acc ++ [d])) else bGo r (acc ++ [c]) := by
  cases r <;> rfl
theorem tok_ws {c : Nat} {r : List Nat} (h : isWs c = true) : tokGo (c :: r) = tokGo r := by rw [tok_eq, if_pos h]
theorem tok_q (r : List Nat) : tokGo (34 :: r) = qGo r [] := by rw [tok_eq, if_neg (by decide), if_pos rfl]
theorem tok_e1 (d : Nat) (r : List Nat) : tokGo (92 :: d :: r) = bGo r [d] := by rw [tok_eq, if_neg (by decide), if_neg (by decide), if_pos rfl]
theorem tok_b {c : Nat} {r : List Nat} (h : isWs c = false) (h1 : c ≠ 34) (h2 : c ≠ 92) : tokGo (c :: r) = bGo r [c] := by rw [tok_eq, if_neg (by rw [h]; decide), if_neg h1, if_neg h2]
theorem q_q (r acc : List Nat) : qGo (34 :: r) acc = (acc, r) := by rw [q_eq, if_pos rfl]
theorem q_e1 (d : Nat) (r acc : List Nat) : qGo (92 :: d :: r) acc = qGo r (acc ++ [d]) := by rw [q_eq, if_neg (by decide), if_pos rfl]
theorem q_b {c : Nat} {r acc : List Nat} (h1 : c ≠ 34) (h2 : c ≠ 92) : qGo (c :: r) acc = qGo r (acc ++ [c]) := by rw [q_eq, if_neg h1, if_neg h2]
theorem b_w {c : Nat} {r acc : List Nat} (h : isWs c = true) : bGo (c :: r) acc = (acc, r) := by rw [b_eq, if_pos h]
theorem b_e1 (d : Nat) (r acc : List Nat) : bGo (92 :: d :: r) acc = bGo r (acc ++ [d]) := by rw [b_eq, if_neg (by decide), if_pos rfl]
theorem b_b {c : Nat} {r acc : List Nat} (h1 : isWs c = false) (h2 : c ≠ 92) : bGo (c :: r) acc = bGo r (acc ++ [c]) := by rw [b_eq, if_neg (by rw [h1]; decide), if_neg h2]
noncomputable def chr1 (c : Nat) : Str := ⟨#[c]⟩
noncomputable def chrs (l : List Nat) : List Str := l.map chr1
end Uc
end
section
namespace Uc
theorem count_ten (T : Int) (c : Nat) (r : List Nat) : (if chr1 c = Str.ofString "\n" then T - ((c :: r).count 10 : Int) + 1 else T - ((c :: r).count 10 : Int)) = T - (r.count 10 : Int) := by
  have e : (chr1 c = Str.ofString "\n") ↔ c = 10 := by
    rw [show Str.ofString "\n" = (⟨#[10]⟩ : Str) from by rfl]
    unfold chr1
    constructor
    · intro h; injection h with h; simpa using h
    · rintro rfl; rfl
  by_cases h : c = 10
  · rw [if_pos (e.mpr h), h, List.count_cons_self]; push_cast; (walk_at "O")
  · rw [if_neg (fun q => h (e.mp q)), List.count_cons_of_ne (fun q => h q)]
theorem sub1 (d a0 a1 a2 a3 : Nat) : ∀ i, i < 4 → Builtin.Str.subAt (⟨#[a0,a1,a2,a3]⟩) (chr1 d) i = (#[a0,a1,a2,a3].getD i 0 == d) := by
  intro i hi
  match i, hi with
  | 0, _ => show (#[a0] == #[d]) = (a0 == d); simp
  | 1, _ => show (#[a1] == #[d]) = (a1 == d); simp
  | 2, _ => show (#[a2] == #[d]) = (a2 == d); simp
  | 3, _ => show (#[a3] == #[d]) = (a3 == d); simp
theorem ws_occ (d : Nat) : (Builtin.Str.occurrences (Str.ofString "\n\t\r ") (chr1 d) 0 (Str.ofString "\n\t\r ").length 1).isEmpty = !(isWs d) := by
  have e : Str.ofString "\n\t\r " = ⟨#[10, 9, 13, 32]⟩ := by rfl
  rw [e]
  have hl : (⟨#[10, 9, 13, 32]⟩ : Str).length = 4 := rfl
  have h1 : (chr1 d).length = 1 := rfl
  have s0 := sub1 d 10 9 13 32 0 (by decide)
  have s1 := sub1 d 10 9 13 32 1 (by decide)
  have s2 := sub1 d 10 9 13 32 2 (by decide)
  have s3 := sub1 d 10 9 13 32 3 (by decide)
  unfold Builtin.Str.occurrences
  rw [hl]
  simp only [h1, Std.Legacy.Range.forIn_eq_forIn_range', Std.Legacy.Range.size]
  simp [Id.run, s0, s1, s2, s3, List.range', isWs]
  by_cases a0 : 10 = d
  · subst a0; rfl
  by_cases a1 : 9 = d
  · subst a1; rfl
  by_cases a2 : 13 = d
  · subst a2; rfl
  by_cases a3 : 32 = d
  · subst a3; rfl
  rw [if_neg a0]
  have b0 : (d == 10) = false := by simp; (walk_at "O")
  have b1 : (d == 9) = false := by simp; (walk_at "O")
  have b2 : (d == 13) = false := by simp; (walk_at "O")
  have b3 : (d == 32) = false := by simp; (walk_at "O")
  rw [b0, b1, b2, b3]
  simp [a1, a2, a3]
  rfl
theorem chr1_eq {d c : Nat} {x : Str} (hx : x = (⟨#[c]⟩ : Str)) : (chr1 d == x) = (d == c) := by
  subst hx
  unfold chr1
  by_cases h : d = c
  · subst h; simp
  · have : (d == c) = false := by simpa using h
    rw [this, beq_eq_false_iff_ne]
    intro e
    injection e with e
    simp at e
    exact h e
theorem app1 (a : List Nat) (d : Nat) : (⟨a.toArray⟩ : Str) ++ (⟨#[d]⟩ : Str) = ⟨(a ++ [d]).toArray⟩ := by
  show (⟨a.toArray ++ #[d]⟩ : Str) = _
  simp
theorem app1c (a : List Nat) (d : Nat) : (⟨a.toArray⟩ : Str) ++ chr1 d = ⟨(a ++ [d]).toArray⟩ := app1 a d
theorem app0 (a : List Nat) : (⟨a.toArray⟩ : Str) ++ (⟨#[]⟩ : Str) = ⟨a.toArray⟩ := by
  show (⟨a.toArray ++ #[]⟩ : Str) = _
  simp
theorem add_fits {a : List Nat} {y : Str} (h : a.length ≤ 20000) (hy : y.length ≤ 1) : (⟨a.toArray⟩ : Str).length + y.length ≤ sizeLine := by
  have : (⟨a.toArray⟩ : Str).length = a.length := by show a.toArray.size = _; simp
  rw [this, sizeLine_eq]
  (walk_at "O")
noncomputable def NextR (w : World) (q : Lex) (T : Int) (pn : Nat) (q' I : Addr) (t : Tok) (news : List (Addr × Obj)) : List Nat → Option Value → List (Addr × Obj) → Prop
  | [], r, n => ∃ tl' sn', r = none ∧ n = lexLed w q (T - (([] : List Nat).count 10 : Int)) tl' [] pn [] sn' ++ (I, itE) :: (q', methodObj (.ref 56) (.ref q.X)) :: news
  | c :: r', r, n => ∃ tl' ss' sn' u, r = some (.str (chr1 c) u) ∧ StrsAre ss' (chrs r') ∧ n = lexLed w q (T - (r'.count 10 : Int)) tl' [] pn ss' sn' ++ (I, itO q' t) :: (q', methodObj (.ref 56) (.ref q.X)) :: news
section
variable (w : World) (p : Program) (loose : List Str) (mean : ExcName → Option Value) (mg mb : Str → Option Value)
theorem next_lex (news : List (Addr × Obj)) (q : Lex) (T : Int) (tl : Tok) (pn : Nat) (ss : List Value) (sn : Nat) (cs : List Nat) (q' I : Addr) (t : Tok) (hss : StrsAre ss (chrs cs)) (hlen : cs.length ≤ 10000) (hT : (cs.count 10 : Int) ≤ T ∧ T ≤ 100000)
    (ok : LexOk q ((I, itO q' t) :: (q', methodObj (.ref 56) (.ref q.X)) :: news)) (hI : ∀ p ∈ news, p.1 ≠ I) (l1 : q.PB < q') (l2 : q' < I)
    {dp un : Nat} {gd : Option (List Code)} {cn : Str} {sc : Scope} {a : Addr} {ccd : Value} {cl : List (Str × Addr)} {outer : List Env} {A₀ : Around} {base h₀ : Heap} {L : Addr} {m : Str → Option Value} {s : Shared} {Q : Option Value → Shared → Prop} {E : Value → Shared → Prop}
    (B : Below A₀ base outer h₀) (F : Fr h₀ L s.heap m) (X : (K w.params).In h₀) (N : News h₀ L s.heap (lexLed w q (T - (cs.count 10 : Int)) tl [] pn ss sn ++ (I, itO q' t) :: (q', methodObj (.ref 56) (.ref q.X)) :: news)) (Tp : Top p loose mean mg mb h₀) (hk : sc.kind = .function)
    (pre : CodeHd base 213 209) (hd : dp + 14 < recursionLimit) (hu : un + 50 < cLine)
    (hret : ∀ r news' h' tk', NextR w q T pn q' I t news cs r news' → Fr h₀ L h' m → News h₀ L h' news' → Q r { s with heap := h', toks := tk' }) :
    wpAny (model Pm w) (ktrTop dp un gd cn sc L a ccd cl outer) (pyNext (.ref I)) Q E s := by
  have hlen' : ss.length ≤ 100000 := by
    have := StrsAre.length hss
    rw [this]; unfold chrs; rw [List.length_map]; (walk_at "O")
  have mI : (I, itO q' t) ∈ lexLed w q (T - (cs.count 10 : Int)) tl [] pn ss sn ++ (I, itO q' t) :: (q', methodObj (.ref 56) (.ref q.X)) :: news := List.mem_append_right _ (.head _)
  have mq : (q', methodObj (.ref 56) (.ref q.X)) ∈ lexLed w q (T - (cs.count 10 : Int)) tl [] pn ss sn ++ (I, itO q' t) :: (q', methodObj (.ref 56) (.ref q.X)) :: news := List.mem_append_right _ (.tail _ (.head _))
  have hf : s.heap.get? 56 = some (o56 w.params) := (X.keeps F.keep) _ _ (by rfl)
  refine next_live (A := ktrTop dp un gd cn sc L a ccd cl outer) rfl (N _ mI).1 (N _ mq).1 hf rfl ?_
  refine codeAny_mono (read_charC w p loose mean mg mb _ q (T - (cs.count 10 : Int)) tl [] pn ss sn (chrs cs) hss hlen' (by (walk_at "O")) ok dp (un + 1) gd cn sc a ccd cl outer A₀ base h₀ L m s (fun _ _ => False) B F X N Tp hk pre (by (walk_at "O")) (by (walk_at "O"))
    (Q := fun v s' => ∃ h' tk' tl' sn' u, s' = { s with heap := h', toks := tk' } ∧ v = .str ((chrs cs).headD Str.empty) u ∧ Fr h₀ L h' m ∧ News h₀ L h' (lexLed w q (if (chrs cs).headD Str.empty = Str.ofString "\n" then T - (cs.count 10 : Int) + 1 else T - (cs.count 10 : Int)) tl' [] pn ss.tail sn' ++ (I, itO q' t) :: (q', methodObj (.ref 56) (.ref q.X)) :: news)) ?_) ?_
  · first | refine kE3nv ?_ | refine kE3vn ?_
    intro tl' sn' u h' tk' F' N'
    exact Uc.ei5 _ _ _ _ _ ⟨rfl, rfl, F', N'⟩
  · intro r s' z
    cases r with
    | error e => exact z.elim
    | ok f =>
     cases f with
     | ret v =>
      (refine Uc.ex5 z fun h' tk' tl' sn' u => Uc.an4 fun e1q e2q F' N' => ?_; clear z; subst e1q; subst e2q)
      have mI' : (I, itO q' t) ∈ lexLed w q (if (chrs cs).headD Str.empty = Str.ofString "\n" then T - (cs.count 10 : Int) + 1 else T - (cs.count 10 : Int)) tl' [] pn ss.tail sn' ++ (I, itO q' t) :: (q', methodObj (.ref 56) (.ref q.X)) :: news := List.mem_append_right _ (.head _)
      have mq' : (q', methodObj (.ref 56) (.ref q.X)) ∈ lexLed w q (if (chrs cs).headD Str.empty = Str.ofString "\n" then T - (cs.count 10 : Int) + 1 else T - (cs.count 10 : Int)) tl' [] pn ss.tail sn' ++ (I, itO q' t) :: (q', methodObj (.ref 56) (.ref q.X)) :: news := List.mem_append_right _ (.tail _ (.head _))
      refine ⟨_, u, rfl, (N' _ mI').1, (N' _ mq').1, (X.keeps F'.keep) _ _ (by rfl), ?_, ?_⟩
      · intro hne
        cases cs with
        | nil => exact absurd rfl hne
        | cons c r =>
          cases hss with
          | cons y ty hr =>
            refine hret _ _ _ _ ⟨tl', _, sn', u, rfl, hr, rfl⟩ F' ?_
            have e := count_ten T c r
            rw [show (chrs (c :: r)).headD Str.empty = chr1 c from rfl, e] at N'
            exact N'
      · intro he h'' hk'' hI''
        cases cs with
        | cons c r =>
          exfalso
          have : (chr1 c).cps.size = (Str.ofString "").cps.size := congrArg (fun x : Str => x.cps.size) he
          exact absurd (show (1 : Nat) = 0 from this) (by decide)
        | nil =>
          cases hss
          have e : (if (chrs []).headD Str.empty = Str.ofString "\n" then T - (([] : List Nat).count 10 : Int) + 1 else T - (([] : List Nat).count 10 : Int)) = T - (([] : List Nat).count 10 : Int) := if_neg (by decide)
          rw [e] at N'
          have nI := N' _ mI'
          have o1 := ltN ok.o1
          have o2 := ltN ok.o2
          have o3 := ltN ok.o3
          have o4 := ltN ok.o4
          have o5 := ltN ok.o5
          have o6 := ltN ok.o6
          have o7 := ltN ok.o7
          have o8 := ltN ok.o8
          have l1 := ltN l1
          have l2 := ltN l2
          have F'' : Fr h₀ L h'' m := by
            (refine Uc.ex3 F'.ns fun oL a1 a2 => Uc.an2 fun hoL a3 => ?_)
            refine ⟨⟨oL, a1, a2, hk'' _ _ nI.2.1.symm hoL, a3⟩, fun b o e => hk'' _ _ (fun z => ?_) (F'.keep b o e), F'.above⟩
            rw [z] at e
            exact absurd (nI.2.2.symm.trans e) (by simp)
          have ol := ok.n1
          have NN : ∀ p ∈ lexLed w q (T - (([] : List Nat).count 10 : Int)) tl' [] pn [] sn', p.1 ≠ I := by
            have e1 : @LT.lt Nat _ q.CC I := by (walk_at "O")
            have e2 : @LT.lt Nat _ q.SG I := by (walk_at "O")
            have e3 : @LT.lt Nat _ q.SF I := by (walk_at "O")
            have e4 : @LT.lt Nat _ q.RC I := by (walk_at "O")
            have e5 : @LT.lt Nat _ q.RF I := by (walk_at "O")
            have e6 : @LT.lt Nat _ q.SD I := by (walk_at "O")
            have e7 : @LT.lt Nat _ q.D I := by (walk_at "O")
            have e8 : @LT.lt Nat _ q.X I := by (walk_at "O")
            have e9 : @LT.lt Nat _ q.PB I := by (walk_at "O")
            simp only [lexLed, List.forall_mem_cons]
            exact ⟨Nat.ne_of_lt e8, Nat.ne_of_lt e7, Nat.ne_of_lt e9, Nat.ne_of_lt e3, Nat.ne_of_lt e6, Nat.ne_of_lt e5, Nat.ne_of_lt e4, Nat.ne_of_lt e1, Nat.ne_of_lt e2, fun _ h => nomatch h⟩
          refine hret _ _ _ _ ⟨tl', sn', rfl, rfl⟩ F'' (fun p hp => ?_)
          rcases List.mem_append.mp hp with hp | hp
          · have z := N' p (List.mem_append_left _ hp)
            exact ⟨hk'' _ _ (NN p hp) z.1, z.2⟩
          · rcases List.mem_cons.mp hp with rfl | hp
            · exact ⟨hI'', nI.2⟩
            · have z := N' p (List.mem_append_right _ (.tail _ hp))
              refine ⟨hk'' _ _ ?_ z.1, z.2⟩
              rcases List.mem_cons.mp hp with rfl | hp
              · exact Nat.ne_of_lt l2
              · exact hI p hp
     | _ => exact z.elim
theorem read_nil (news : List (Addr × Obj)) (q : Lex) (T : Int) (tl : Tok) (ps : List Value) (pn : Nat) (ss : List Value) (sn : Nat) (hss : StrsAre ss (chrs [])) (hT : 0 ≤ T ∧ T ≤ 100000) (ok : LexOk q news) :
    Con w p loose mean mg mb 56 12 40 [.ref q.X] (lexLed w q (T - (([] : List Nat).count 10 : Int)) tl ps pn ss sn ++ news) (fun h => CodeHd h 213 209) (fun v n => ∃ tl' sn' t, n = lexLed w q (T - (([] : List Nat).count 10 : Int)) tl' ps pn [] sn' ++ news ∧ v = .str ⟨#[]⟩ t) := by
  intro dp un gd cn sc a ccd cl outer A₀ base h₀ L m s Q E a1 a2 a3 a4 a5 a6 a7 a8 a9 a10
  cases hss
  refine (read_charC w p loose mean mg mb news q (T - (([] : List Nat).count 10 : Int)) tl ps pn [] sn [] .nil (Nat.zero_le _) (by simp only [List.count_nil]; (walk_at "O")) ok).con dp un gd cn sc a ccd cl outer A₀ base h₀ L m s Q E a1 a2 a3 a4 a5 a6 a7 a8 a9 ?_
  first | refine kE3nv ?_ | refine kE3vn ?_
  intro tl' sn' t h' tk' F N
  refine a10 _ _ _ _ ⟨tl', sn', t, rfl, rfl⟩ F ?_
  rw [if_neg (by decide)] at N
  exact N
theorem read_cons (news : List (Addr × Obj)) (q : Lex) (T : Int) (tl : Tok) (ps : List Value) (pn : Nat) (ss : List Value) (sn : Nat) (c : Nat) (r : List Nat) (hss : StrsAre ss (chrs (c :: r))) (hlen : (c :: r).length ≤ 10000) (hT : ((c :: r).count 10 : Int) ≤ T ∧ T ≤ 100000) (ok : LexOk q news) :
    Con w p loose mean mg mb 56 12 40 [.ref q.X] (lexLed w q (T - ((c :: r).count 10 : Int)) tl ps pn ss sn ++ news) (fun h => CodeHd h 213 209) (fun v n => ∃ tl' ss' sn' t, StrsAre ss' (chrs r) ∧ n = lexLed w q (T - (r.count 10 : Int)) tl' ps pn ss' sn' ++ news ∧ v = .str ⟨#[c]⟩ t) := by
  intro dp un gd cn sc a ccd cl outer A₀ base h₀ L m s Q E a1 a2 a3 a4 a5 a6 a7 a8 a9 a10
  have hl := StrsAre.length hss
  refine (read_charC w p loose mean mg mb news q (T - ((c :: r).count 10 : Int)) tl ps pn ss sn (chrs (c :: r)) hss (by rw [hl]; unfold chrs; rw [List.length_map]; (walk_at "O")) (by (walk_at "O")) ok).con dp un gd cn sc a ccd cl outer A₀ base h₀ L m s Q E a1 a2 a3 a4 a5 a6 a7 a8 a9 ?_
  first | refine kE3nv ?_ | refine kE3vn ?_
  intro tl' sn' t h' tk' F N
  cases hss with
  | cons y ty hr =>
    refine a10 _ _ _ _ ⟨tl', _, sn', t, hr, rfl, rfl⟩ F ?_
    have e := count_ten T c r
    rw [show (chrs (c :: r)).headD Str.empty = chr1 c from rfl, e] at N
    exact N
theorem read_any (news : List (Addr × Obj)) (q : Lex) (T : Int) (tl : Tok) (ps : List Value) (pn : Nat) (ss : List Value) (sn : Nat) (r : List Nat) (hss : StrsAre ss (chrs r)) (hlen : r.length ≤ 10000) (hT : (r.count 10 : Int) ≤ T ∧ T ≤ 100000) (ok : LexOk q news) :
    Con w p loose mean mg mb 56 12 40 [.ref q.X] (lexLed w q (T - (r.count 10 : Int)) tl ps pn ss sn ++ news) (fun h => CodeHd h 213 209) (fun v n => ∃ tl' ss' sn' t, StrsAre ss' (chrs r.tail) ∧ n = lexLed w q (T - (r.tail.count 10 : Int)) tl' ps pn ss' sn' ++ news ∧ v = .str ⟨(r.take 1).toArray⟩ t) := by
  cases r with
  | nil =>
    intro dp un gd cn sc a ccd cl outer A₀ base h₀ L m s Q E a1 a2 a3 a4 a5 a6 a7 a8 a9 a10
    refine read_nil w p loose mean mg mb news q T tl ps pn ss sn hss hT ok dp un gd cn sc a ccd cl outer A₀ base h₀ L m s Q E a1 a2 a3 a4 a5 a6 a7 a8 a9 ?_
    first | refine kE3nv ?_ | refine kE3vn ?_
    intro tl' sn' t h' tk' F N
    exact a10 _ _ _ _ ⟨tl', [], sn', t, .nil, rfl, rfl⟩ F N
  | cons c r => exact read_cons w p loose mean mg mb news q T tl ps pn ss sn c r hss hlen hT ok
theorem take1_le (l : List Nat) : (⟨(l.take 1).toArray⟩ : Str).length ≤ 1 := by
  cases l with
  | nil => exact Nat.zero_le _
  | cons c l => exact Nat.le_refl 1
theorem appT (a l : List Nat) : (⟨a.toArray⟩ : Str) ++ (⟨(l.take 1).toArray⟩ : Str) = ⟨(a ++ l.take 1).toArray⟩ := by
  cases l with
  | nil => rw [List.take_nil, List.append_nil]; exact app0 a
  | cons c l => exact app1 a c
theorem len_ta (r a : List Nat) : r.tail.length + (a ++ r.take 1).length ≤ r.length + a.length := by
  cases r with
  | nil => rw [List.take_nil, List.append_nil]; exact Nat.le_refl _
  | cons c r => rw [List.length_append]; exact Nat.le_of_eq (show r.length + (a.length + 1) = r.length + 1 + a.length by omega)
theorem len_tail (r : List Nat) : r.tail.length ≤ r.length := by
  cases r with
  | nil => exact Nat.le_refl _
  | cons c r => exact Nat.le_succ _
theorem cnt_tail (r : List Nat) : r.tail.count 10 ≤ r.count 10 := by
  cases r with
  | nil => exact Nat.le_refl _
  | cons c r => exact List.count_le_count_cons
theorem q_ea (r a : List Nat) : qGo (92 :: r) a = qGo r.tail (a ++ r.take 1) := by
  cases r with
  | nil => rw [List.take_nil, List.append_nil]; rfl
  | cons c r => exact q_e1 _ _ _
theorem b_ea (r a : List Nat) : bGo (92 :: r) a = bGo r.tail (a ++ r.take 1) := by
  cases r with
  | nil => rw [List.take_nil, List.append_nil]; rfl
  | cons c r => exact b_e1 _ _ _
theorem tok_ea (r : List Nat) : tokGo (92 :: r) = bGo r.tail (r.take 1) := by
  cases r with
  | nil => rfl
  | cons c r => exact tok_e1 _ _
end
end Uc
end
section
namespace Uc
theorem emp_is : Str.ofString "" = (⟨#[]⟩ : Str) := by rfl
set_option genInjectivity false in
set_option genSizeOf false in
structure TS where
  rest : List Nat
  acc : List Nat
  o : Obj
  ss : List Value
  sn : Nat
  tl : Tok
  tt : Tok
theorem nil_app (l : List Nat) : (⟨([] : List Nat).toArray⟩ : Str) ++ ⟨l.toArray⟩ = ⟨l.toArray⟩ := by
  show (⟨([] : List Nat).toArray ++ l.toArray⟩ : Str) = _
  simp
theorem nil_app2 (l : List Nat) : Str.ofString "" ++ (⟨l.toArray⟩ : Str) = ⟨l.toArray⟩ := by
  rw [show Str.ofString "" = (⟨([] : List Nat).toArray⟩ : Str) from by rfl]
  exact nil_app l
theorem fpTS {P : TS → Prop} (h : ∀ a b c d e f g, P ⟨a, b, c, d, e, f, g⟩) : ∀ c, P c := fun c => h c.rest c.acc c.o c.ss c.sn c.tl c.tt
noncomputable def tsLed (w : World) (q : Lex) (T : Int) (pn : Nat) (q' I : Addr) (news : List (Addr × Obj)) (c : TS) : List (Addr × Obj) := lexLed w q (T - (c.rest.count 10 : Int)) c.tl [] pn c.ss c.sn ++ (I, c.o) :: (q', methodObj (.ref 56) (.ref q.X)) :: news
noncomputable def tsNms (q : Lex) (I : Addr) (c : TS) : Nms := [(Str.ofString "token", .str ⟨c.acc.toArray⟩ c.tt), (Str.ofString "fiter", .ref I), (Str.ofString "self", .ref q.X)]
noncomputable def tsLive (T : Int) (q' : Addr) (t : Tok) (c : TS) : Prop := c.o = itO q' t ∧ StrsAre c.ss (chrs c.rest) ∧ c.rest.length + c.acc.length ≤ 10000 ∧ (c.rest.count 10 : Int) ≤ T
noncomputable def tsDead (c : TS) : Prop := c.o = itE ∧ c.rest = [] ∧ c.ss = []
theorem perm_ab {α : Type} {a b : α} {l n : List α} : ∀ p ∈ l ++ a :: b :: n, p ∈ a :: b :: (l ++ n) := fun p hp => by
  rcases List.mem_append.mp hp with hp | hp
  · exact .tail _ (.tail _ (List.mem_append_left _ hp))
  · rcases List.mem_cons.mp hp with rfl | hp
    · exact .head _
    · rcases List.mem_cons.mp hp with rfl | hp
      · exact .tail _ (.head _)
      · exact .tail _ (.tail _ (List.mem_append_right _ hp))
theorem perm_no {α : Type} {a b : α} {l n : List α} : ∀ p ∈ l ++ n, p ∈ l ++ a :: b :: n := fun p hp => by
  rcases List.mem_append.mp hp with hp | hp
  · exact List.mem_append_left _ hp
  · exact List.mem_append_right _ (.tail _ (.tail _ hp))
theorem ts_turn {w : World} {p : Program} {loose : List Str} {mean : ExcName → Option Value} {mg mb : Str → Option Value} {news : List (Addr × Obj)} {q : Lex} {T : Int} {pn : Nat} {q' I : Addr} {t : Tok} (hT : T ≤ 100000)
    (ok : LexOk q ((I, itO q' t) :: (q', methodObj (.ref 56) (.ref q.X)) :: news)) (hI : ∀ p ∈ news, p.1 ≠ I) (l1 : q.PB < q') (l2 : q' < I)
    {dp un : Nat} {gd : Option (List Code)} {cn : Str} {sc : Scope} {a : Addr} {ccd : Value} {cl : List (Str × Addr)} {outer : List Env} {A₀ : Around} {base h₀ h : Heap} {L : Addr} {u : Str → Option Value} {s : Shared} {tk : Tok} {E : Value → Shared → Prop}
    (B : Below A₀ base outer h₀) (X : (K w.params).In h₀) (Tp : Top p loose mean mg mb h₀) (hk : sc.kind = .function)
    (pre : CodeHd base 213 209) (hd : dp + 14 < recursionLimit) (hu : un + 50 < cLine) (Y : Value → TS → Prop) (Z : TS → Prop) (c : TS)
    (F : Fr h₀ L h (fm u (tsNms q I c))) (N : News h₀ L h (tsLed w q T pn q' I news c)) (hc : tsLive T q' t c)
    (hZ : c.rest = [] → ∀ sn tl, Z ⟨[], c.acc, itE, [], sn, tl, c.tt⟩)
    (hY : ∀ d r, c.rest = d :: r → ∀ ss sn tl v, tsLive T q' t ⟨r, c.acc, itO q' t, ss, sn, tl, c.tt⟩ → r.length + c.acc.length + 1 ≤ 10000 → Y (.str (chr1 d) v) ⟨r, c.acc, itO q' t, ss, sn, tl, c.tt⟩) :
    wpAny (model Pm w) (ktrTop dp un gd cn sc L a ccd cl outer) (pyNext (.ref I)) (fun r s₂ => match r with
        | none => Got h₀ L (tsLed w q T pn q' I news) (tsNms q I) Z s s₂
        | some v => Got h₀ L (tsLed w q T pn q' I news) (tsNms q I) (fun c' => Y v c' ∧ c'.rest.length < c.rest.length) s s₂) E { s with heap := h, toks := tk } := by
  obtain ⟨rest, acc, o, ss, sn, tl, tt⟩ := c
  obtain ⟨h1, h2, h3, h4⟩ := hc
  dsimp only at h1 h2 h3 h4 hZ hY F
  subst h1
  refine next_lex w p loose mean mg mb news q T tl pn ss sn rest q' I t h2 (by (walk_at "O")) ⟨h4, hT⟩ ok hI l1 l2 (s := ⟨_, _, _, _, _⟩) B F X N Tp hk pre hd hu ?_
  intro r news' h' tk' hR F' N'
  cases rest with
  | nil =>
    obtain ⟨tl', sn', rfl, rfl⟩ := hR
    exact ⟨⟨[], acc, itE, [], sn', tl', tt⟩, _, h', tk', rfl, F', N', ⟨rfl, rfl, rfl, trivial⟩, hZ rfl _ _⟩
  | cons d r =>
    (refine Uc.ex4 hR fun tl' ss' sn' v => Uc.an3 fun e1q hs e2q => ?_; clear hR; subst e1q; subst e2q)
    have hL : tsLive T q' t ⟨r, acc, itO q' t, ss', sn', tl', tt⟩ := ⟨rfl, hs, by rw [List.length_cons] at h3; dsimp only; (walk_at "O"), by
      have : r.count 10 ≤ (d :: r).count 10 := List.count_le_count_cons
      (try dsimp only)
      (walk_at "O")⟩
    exact ⟨⟨r, acc, itO q' t, ss', sn', tl', tt⟩, _, h', tk', rfl, F', N', ⟨rfl, rfl, rfl, trivial⟩, hY d r rfl _ _ _ _ hL (by rw [List.length_cons] at h3; (walk_at "O")), Nat.lt_succ_self _⟩
section
variable (w : World) (p : Program) (loose : List Str) (mean : ExcName → Option Value) (mg mb : Str → Option Value)
theorem get_new (news : List (Addr × Obj)) (q : Lex) (T : Int) (tl : Tok) (pn : Nat) (ss : List Value) (sn : Nat) (cs : List Nat) (hss : StrsAre ss (chrs cs)) (hlen : cs.length ≤ 10000) (hT : (cs.count 10 : Int) ≤ T ∧ T ≤ 100000) (ok : LexOk q news) :
    Con w p loose mean mg mb 63 20 80 [.ref q.X] (lexLed w q (T - cs.count 10) tl [] pn ss sn ++ news) (fun h => CodeHd h 213 209)
      (fun r n => ∃ tl' pn' ss' sn' t, n = lexLed w q (T - (tokGo cs).2.count 10) tl' [] pn' ss' sn' ++ news ∧ StrsAre ss' (chrs (tokGo cs).2) ∧ r = .str ⟨(tokGo cs).1.toArray⟩ t) := by
  have o1 := ltN ok.o1
  have o2 := ltN ok.o2
  have o3 := ltN ok.o3
  have o4 := ltN ok.o4
  have o5 := ltN ok.o5
  have o6 := ltN ok.o6
  have o7 := ltN ok.o7
  have o8 := ltN ok.o8
  have n1 := ok.n1
  have n2 := ok.n2
  have n3 := ok.n3
  dsimp only [Con, Pm, lexLed, List.cons_append, List.nil_append]
  k_fill
  intros
  rename_i hret
  refine wpAny_call ?_
  k_dflt cell_enter
  repeat' (first | (walk_at "P") | (walk_at "F"; first | ((with_reducible show ite _ _ _); first | (rw [if_pos (by first | (simp only [decide_eq_true_eq, bne_iff_ne, ne_eq]; omega) | (simp only [decide_eq_true_eq]; omega))]) | (rw [if_neg (by first | (simp only [decide_eq_true_eq, bne_iff_ne, ne_eq]; omega) | (simp only [decide_eq_true_eq]; omega))])) | (walk_at "T")))
  refine iter_make2 (by assumption) (by assumption) (by assumption) ?_
  intro q' t h' I F' N' lq lI
  repeat' (first | (walk_at "P") | (walk_at "F"; (fail_if_success (with_reducible show wpAny _ _ (execs (PySem.Stmt.For _ _ _ _ ⟨72, _, _, _⟩ :: _) _) _ _ _)); walk_at "T"))
  (try dsimp only)
  rename Fr _ _ _ _ => F9
  rename News _ _ _ _ => N8
  have N9 := fun tt : Tok => News.sub (a := (I, itO q' t) :: (q', methodObj (.ref 56) (.ref q.X)) :: (lexLed w q (T - (cs.count 10 : Int)) tl [] pn ss sn ++ news)) (b := tsLed w q T pn q' I news ⟨cs, [], itO q' t, ss, sn, tl, tt⟩) N8 perm_ab
  clear N8
  walk_at "H"
  refine execs_join F9 (tsLed w q T pn q' I news) (tsNms q I) (fun c => tsDead c ∧ tokGo cs = (c.acc, [])) ?g1 ?g2
  case g2 =>
    refine fpTS fun rest acc o ss sn tl tt => ?_
    intro u h tk hR10z F N
    have h4 := hR10z.2
    obtain ⟨h1, h2, h3⟩ := hR10z.1
    clear hR10z
    dsimp only at h1 h2 h3 h4 F N ⊢
    subst h1 h2 h3
    repeat' (first | (walk_at "P") | (walk_at "F"; walk_at "T"))
    rw [h4] at hret
    rename News _ _ _ (tsLed _ _ _ _ _ _ _ _) => N7
    have N6 := News.sub (b := lexLed w q (T - (([] : List Nat).count 10 : Int)) tl [] pn [] sn ++ news) N7 (perm_no (l := lexLed w q (T - (([] : List Nat).count 10 : Int)) tl [] pn [] sn) (n := news))
    exact hret _ _ _ _ (Uc.ei5 tl pn ([]) sn tt ⟨rfl, .nil, rfl⟩) (by assumption) N6
  case g1 =>
    walk_at "H"
    refine wpAny_For ?_
    repeat' (first | (walk_at "P") | (walk_at "F"; walk_at "T"))
    have lI2 := ltN lI
    have lq1 : q.PB < q' := lq.2.2.1
    have lq2 : AllLt q' news := lq.2.2.2.2.2.2.2.2.2
    have hnI : ∀ p ∈ news, p.1 ≠ I := fun p hp => Nat.ne_of_lt (Nat.lt_trans (allLt_all lq2 p hp) lI)
    have ok' : LexOk q ((I, itO q' t) :: (q', methodObj (.ref 56) (.ref q.X)) :: news) := by
      have o1 := ltN ok.o1
      have o2 := ltN ok.o2
      have o3 := ltN ok.o3
      have o4 := ltN ok.o4
      have o5 := ltN ok.o5
      have o6 := ltN ok.o6
      have o7 := ltN ok.o7
      have o8 := ltN ok.o8
      have lq1 := ltN lq1
      exact { ok with
        n1 := List.forall_mem_cons.mpr ⟨Nat.ne_of_gt (show @LT.lt Nat _ q.D I by (walk_at "O")), List.forall_mem_cons.mpr ⟨Nat.ne_of_gt (show @LT.lt Nat _ q.D q' by (walk_at "O")), ok.n1⟩⟩
        n2 := List.forall_mem_cons.mpr ⟨Nat.ne_of_gt (show @LT.lt Nat _ q.PB I by (walk_at "O")), List.forall_mem_cons.mpr ⟨Nat.ne_of_gt (show @LT.lt Nat _ q.PB q' by (walk_at "O")), ok.n2⟩⟩
        n3 := List.forall_mem_cons.mpr ⟨Nat.ne_of_gt (show @LT.lt Nat _ q.SG I by (walk_at "O")), List.forall_mem_cons.mpr ⟨Nat.ne_of_gt (show @LT.lt Nat _ q.SG q' by (walk_at "O")), ok.n3⟩⟩ }
    refine ci_self ⟨_, (N9 0 _ (List.mem_append_right _ (.head _))).1, rfl⟩ ?_
    refine for_own I (tsLed w q T pn q' I news) (tsNms q I) (fun c => (tsLive T q' t c ∧ c.acc = [] ∧ tokGo cs = tokGo c.rest) ∨ (tsDead c ∧ tokGo cs = (c.acc, [])))
      (fun v c => ∃ d u, v = .str (chr1 d) u ∧ tsLive T q' t c ∧ c.rest.length + c.acc.length + 1 ≤ 10000 ∧ c.acc = [] ∧ tokGo cs = tokGo (d :: c.rest)) (fun c => tsDead c ∧ tokGo cs = (c.acc, [])) (fun c => c.rest.length) ⟨cs, [], itO q' t, ss, sn, tl, _⟩ rfl rfl F9 (N9 _) ⟨congrArg some (congrArg (Value.str · _) emp_is), rfl, rfl, trivial⟩ ?hp ?turn ?body ?done (by passes_own)
    case hp => exact .inl ⟨⟨rfl, hss, by show cs.length + 0 ≤ _; (walk_at "O"), hT.1⟩, rfl, rfl⟩
    case done =>
      intro c u h tk hZ F N
      walk_at "H"; exact GotF.mk c F N (fun _ h => h) ⟨rfl, rfl, rfl, trivial⟩ hZ
    case turn =>
      rintro c u h tk (⟨hc, ha, ht⟩ | ⟨hc, ht⟩) F N
      · refine ts_turn hT.2 ok' hnI lq1 lI (by assumption) (by assumption) (by assumption) (by rfl) (by assumption) (by ktr_room) (by ktr_units) _ _ c F N hc ?_ ?_
        · intro e sn tl
          rw [e] at ht
          exact ⟨⟨rfl, rfl, rfl⟩, by rw [ha]; exact ht⟩
        · intro d r e ss sn tl v hl hb
          rw [e] at ht
          exact ⟨d, v, rfl, hl, hb, ha, ht⟩
      · obtain ⟨rest, acc, o, ss, sn, tl, tt⟩ := c
        obtain ⟨h1, h2, h3⟩ := hc
        dsimp only at h1 h2 h3 ht F N
        subst h1 h2 h3
        refine next_dead rfl (N _ (List.mem_append_right _ (.head _))).1 fun h' hk' => ?_
        exact Uc.ei4 _ _ h' _ ⟨rfl, F.keeps hk', fun p hp => ⟨hk' _ _ (N p hp).1, (N p hp).2⟩, ⟨rfl, rfl, rfl, trivial⟩, ⟨rfl, rfl, rfl⟩, ht⟩
    case body =>
      refine fpTS fun rest acc o ss sn tl tt => ?_
      intro v u h tk hR11z F N
      (refine Uc.ex2 hR11z fun d u => Uc.an5 fun e1q w3q hb h5 h6 => ?_; clear hR11z; subst e1q); (refine Uc.ah4 w3q fun h1 h2 h3 h4 => ?_; clear w3q)
      dsimp only at h1 h2 h3 h4 hb h5 h6 F N ⊢
      subst h1 h5
      dsimp only [tsLed, tsNms, lexLed, List.cons_append, List.nil_append] at F N
      repeat' (first | (walk_at "P") | (walk_at "F"; (fail_if_success (with_reducible show wpAny _ _ (execs (PySem.Stmt.If _ _ _ ⟨83, _, _, _⟩ :: _) _) _ _ _)); walk_at "T"))
      · rename (_ == Str.ofString "\"") = true => hd
        rw [chr1_eq (c := 34) (by rfl), beq_iff_eq] at hd
        rename News _ _ _ _ => N5
        rename Fr _ _ _ _ => F5
        walk_at "H"
        refine wpAny_For ?_
        repeat' (first | (walk_at "P") | (walk_at "F"; walk_at "T"))
        refine ci_self ⟨_, (N5 (I, itO q' t) (by k_mem)).1, rfl⟩ ?_
        refine for_own I (tsLed w q T pn q' I news) (tsNms q I) (fun c => tsLive T q' t c ∧ tokGo cs = qGo c.rest c.acc)
          (fun v c => ∃ d u, v = .str (chr1 d) u ∧ tsLive T q' t c ∧ c.rest.length + c.acc.length + 1 ≤ 10000 ∧ tokGo cs = qGo (d :: c.rest) c.acc) (fun c => tsDead c ∧ tokGo cs = (c.acc, [])) (fun c => c.rest.length) ⟨rest, [], itO q' t, ss, sn, tl, _⟩ rfl rfl F5 N5 ⟨rfl, rfl, rfl, trivial⟩ ?hpA ?turnA ?bodyA ?doneA (by passes_own)
        case hpA => exact ⟨⟨rfl, h2, by (try simp only [List.length_append, List.length_cons, List.length_nil]); dsimp only [List.length_nil, List.length_cons] at *; (walk_at "O"), h4⟩, by rw [h6, hd, tok_q]⟩
        case doneA =>
          refine fpTS fun rest acc o ss sn tl tt => ?_
          intro u h tk hR1z F N
          have h4 := hR1z.2
          obtain ⟨h1, h2, h3⟩ := hR1z.1
          clear hR1z
          dsimp only at h1 h2 h3 h4 F N ⊢
          subst h1 h2 h3
          repeat' (first | (walk_at "P") | (walk_at "F"; walk_at "T"))
          walk_at "H"; exact Got.mk ⟨[], acc, itE, [], sn, tl, tt⟩ (by assumption) (by assumption) (fun _ h => h) ⟨rfl, rfl, rfl, trivial⟩ ⟨.inr ⟨⟨rfl, rfl, rfl⟩, h4⟩, Nat.zero_le _⟩
        case turnA =>
          intro c u h tk hR2z F N
          have hc := hR2z.1
          have ht := hR2z.2
          clear hR2z
          refine ts_turn hT.2 ok' hnI lq1 lI (by assumption) (by assumption) (by assumption) (by rfl) (by assumption) (by ktr_room) (by ktr_units) _ _ c F N hc ?_ ?_
          · intro e sn tl
            rw [e] at ht
            exact ⟨⟨rfl, rfl, rfl⟩, ht⟩
          · intro d r e ss sn tl v hl hb
            rw [e] at ht
            exact ⟨d, v, rfl, hl, hb, ht⟩
        case bodyA =>
          refine fpTS fun rest acc o ss sn tl tt => ?_
          intro v u h tk hR3z F N
          (refine Uc.ex2 hR3z fun d u => Uc.an4 fun e1q w4q hb h6 => ?_; clear hR3z; subst e1q); (refine Uc.ah4 w4q fun h1 h2 h3 h4 => ?_; clear w4q)
          dsimp only at h1 h2 h3 h4 hb h6 F N ⊢
          subst h1
          dsimp only [tsLed, tsNms, lexLed, List.cons_append, List.nil_append] at F N
          repeat' (first | (walk_at "P") | (walk_at "F"; first | ((with_reducible show wpAny _ _ (inplaceOp _ _ _) _ _ _); (dsimp only; (with_reducible show wpAny _ _ (inplaceOp Operator.Add (Value.str _ _) (Value.str _ _)) _ _ _); (refine SB.iadd ?_ (by first | exact Uc.add_fits (by (walk_at "O")) (Uc.take1_le _) | exact Uc.add_fits (by (walk_at "O")) (by rfl) | exact Uc.add_fits (by (walk_at "O")) (Nat.le_refl _) | exact Uc.add_fits (by (walk_at "O")) (Nat.zero_le _))); intro _ _; (first | rw [Uc.appT] | rw [Uc.app1] | rw [Uc.app1c] | rw [Uc.app0]))) | (walk_at "T")))
          · rename (chr1 d == Str.ofString "\"") = true => hc
            rw [chr1_eq (c := 34) (by rfl), beq_iff_eq] at hc
            rw [hc, q_q] at h6
            (try dsimp only)
            walk_at "H"
            refine GotF.ret ?_
            walk_at "H"
            repeat' (first | (walk_at "P") | (walk_at "F"; walk_at "T"))
            rename News _ _ _ _ => N7
            have N6 := News.sub (b := lexLed w q (T - (rest.count 10 : Int)) tl [] pn ss sn ++ news) N7 (perm_no (l := lexLed w q (T - (rest.count 10 : Int)) tl [] pn ss sn) (n := news))
            rw [h6] at hret
            exact hret _ _ _ _ (Uc.ei5 tl pn ss sn tt ⟨rfl, h2, rfl⟩) (by assumption) N6
          · rename (chr1 d == Str.ofString "\\") = true => hc
            rw [chr1_eq (c := 92) (by rfl), beq_iff_eq] at hc
            (refine read_any w p loose mean mg mb ((I, itO q' t) :: (q', methodObj (.ref 56) (.ref q.X)) :: news) q T tl [] pn ss sn rest h2 (by (walk_at "O")) ⟨h4, hT.2⟩ ok' _ _ _ _ _ _ _ _ _ _ _ _ _ _ _ _ _ (by assumption) (by assumption) (by assumption) (by assumption) (by assumption) (by first | assumption | rfl) ?pre (by first | assumption | exact Uc.room3 (by assumption) (by decide) | exact Uc.room2 (by assumption) (by decide) | ktr_room) (by first | assumption | exact Uc.room3 (by assumption) (by decide) | exact Uc.room2 (by assumption) (by decide) | ktr_units) ?_); (case pre => first | exact trivial | assumption)
            first | refine kE4pnv ?_ | refine kE4pvn ?_
            intro tl' ss' sn' u' h' tk' hs' F N
            dsimp only [lexLed, List.cons_append, List.nil_append] at N
            repeat' (first | (walk_at "P") | (walk_at "F"; first | ((with_reducible show wpAny _ _ (inplaceOp _ _ _) _ _ _); (dsimp only; (with_reducible show wpAny _ _ (inplaceOp Operator.Add (Value.str _ _) (Value.str _ _)) _ _ _); (refine SB.iadd ?_ (by first | exact Uc.add_fits (by (walk_at "O")) (Uc.take1_le _) | exact Uc.add_fits (by (walk_at "O")) (by rfl) | exact Uc.add_fits (by (walk_at "O")) (Nat.le_refl _) | exact Uc.add_fits (by (walk_at "O")) (Nat.zero_le _))); intro _ _; (first | rw [Uc.appT] | rw [Uc.app1] | rw [Uc.app1c] | rw [Uc.app0]))) | (walk_at "T")))
            have h4' : (rest.tail.count 10 : Int) ≤ T := Int.le_trans (Int.ofNat_le.mpr (cnt_tail rest)) h4
            walk_at "H"; exact Got.mk ⟨rest.tail, acc ++ rest.take 1, itO q' t, ss', sn', tl', _⟩ (by assumption) (by assumption) (fun _ h => h) ⟨rfl, rfl, rfl, trivial⟩ ⟨⟨⟨rfl, hs', Nat.le_trans (len_ta rest acc) (by (walk_at "O")), h4'⟩, by rw [h6, hc]; exact q_ea _ _⟩, len_tail rest⟩
          · rename (chr1 d == Str.ofString "\"") = false => hc
            rename (chr1 d == Str.ofString "\\") = false => hc2
            rw [chr1_eq (c := 34) (by rfl), beq_eq_false_iff_ne] at hc
            rw [chr1_eq (c := 92) (by rfl), beq_eq_false_iff_ne] at hc2
            rw [q_b hc hc2] at h6
            (try dsimp only)
            walk_at "H"; exact Got.mk ⟨rest, acc ++ [d], itO q' t, ss, sn, tl, _⟩ (by assumption) (by assumption) (fun _ h => h) ⟨rfl, rfl, rfl, trivial⟩ ⟨⟨⟨rfl, h2, by simp only [List.length_append, List.length_cons, List.length_nil] at *; (walk_at "O"), h4⟩, h6⟩, Nat.le_refl _⟩
      · rename (List.isEmpty _) = true => hw
        rename (chr1 d == Str.ofString "\"") = false => hc
        rw [ws_occ, Bool.not_eq_true'] at hw
        rw [chr1_eq (c := 34) (by rfl), beq_eq_false_iff_ne] at hc
        (try dsimp only)
        rename Fr _ _ _ _ => F4
        walk_at "H"
        refine execs_join F4 (σ := TS) (tsLed w q T pn q' I news) (fun c => [(Str.ofString "ch", .str ⟨c.acc.toArray⟩ c.tt), (Str.ofString "token", .str ⟨([] : List Nat).toArray⟩ tt), (Str.ofString "fiter", .ref I), (Str.ofString "self", .ref q.X)]) (fun c => tsLive T q' t c ∧ c.acc.length ≤ 1 ∧ tokGo cs = bGo c.rest c.acc) ?j1 ?j2
        case j1 =>
          repeat' (first | (walk_at "P") | (walk_at "F"; walk_at "T"))
          · rename (chr1 d == Str.ofString "\\") = true => hc2
            rw [chr1_eq (c := 92) (by rfl), beq_iff_eq] at hc2
            (refine read_any w p loose mean mg mb ((I, itO q' t) :: (q', methodObj (.ref 56) (.ref q.X)) :: news) q T tl [] pn ss sn rest h2 (by (walk_at "O")) ⟨h4, hT.2⟩ ok' _ _ _ _ _ _ _ _ _ _ _ _ _ _ _ _ _ (by assumption) (by assumption) (by assumption) (by assumption) (by assumption) (by first | assumption | rfl) ?pre (by first | assumption | exact Uc.room3 (by assumption) (by decide) | exact Uc.room2 (by assumption) (by decide) | ktr_room) (by first | assumption | exact Uc.room3 (by assumption) (by decide) | exact Uc.room2 (by assumption) (by decide) | ktr_units) ?_); (case pre => first | exact trivial | assumption)
            first | refine kE4pnv ?_ | refine kE4pvn ?_
            intro tl' ss' sn' u' h' tk' hs' F N
            dsimp only [lexLed, List.cons_append, List.nil_append] at N
            repeat' (first | (walk_at "P") | (walk_at "F"; walk_at "T"))
            have h4' : (rest.tail.count 10 : Int) ≤ T := Int.le_trans (Int.ofNat_le.mpr (cnt_tail rest)) h4
            walk_at "H"; exact GotF.mk ⟨rest.tail, rest.take 1, itO q' t, ss', sn', tl', _⟩ (by assumption) (by assumption) (fun _ h => h) ⟨rfl, rfl, rfl, rfl, trivial⟩ ⟨⟨rfl, hs', Nat.le_trans (len_ta rest []) (by dsimp only [List.length_nil] at *; (walk_at "O")), h4'⟩, List.length_take_le 1 rest, by rw [h6, hc2]; exact tok_ea _⟩
          · rename (chr1 d == Str.ofString "\\") = false => hc2
            rw [chr1_eq (c := 92) (by rfl), beq_eq_false_iff_ne] at hc2
            (try dsimp only)
            walk_at "H"; exact GotF.mk ⟨rest, [d], itO q' t, ss, sn, tl, _⟩ (by assumption) (by assumption) (fun _ h => h) ⟨rfl, rfl, rfl, rfl, trivial⟩ ⟨⟨rfl, h2, by (try simp only [List.length_append, List.length_cons, List.length_nil]); dsimp only [List.length_nil, List.length_cons] at *; (walk_at "O"), h4⟩, Nat.le_refl _, by rw [h6, tok_b hw hc hc2]⟩
        case j2 =>
          clear F4
          clear h2 h3 h4 h6 hw hc
          intro hR4z u2 h tk hRz F N
          obtain ⟨rest, acc, o, ss, sn, tl, tu⟩ := hR4z
          (refine Uc.ah3 hRz fun w5q h5 h6 => ?_; clear hRz); (refine Uc.ah4 w5q fun h1 h2 h3 h4 => ?_; clear w5q)
          dsimp only at h1 h2 h3 h4 h5 h6 F N ⊢
          subst h1
          dsimp only [tsLed, lexLed, List.cons_append, List.nil_append] at F N
          repeat' (first | (walk_at "P") | (walk_at "F"; (fail_if_success (with_reducible show wpAny _ _ (execs (PySem.Stmt.For _ _ _ _ ⟨85, _, _, _⟩ :: _) _) _ _ _)); walk_at "T"))
          rename Fr _ _ _ _ => F6
          rw [nil_app2 acc] at F6
          rename News _ _ _ _ => N5
          rename Fr _ _ _ _ => F5
          walk_at "H"
          refine wpAny_For ?_
          repeat' (first | (walk_at "P") | (walk_at "F"; walk_at "T"))
          refine ci_self ⟨_, (N5 (I, itO q' t) (by k_mem)).1, rfl⟩ ?_
          refine for_own I (tsLed w q T pn q' I news) (tsNms q I) (fun c => tsLive T q' t c ∧ tokGo cs = bGo c.rest c.acc)
            (fun v c => ∃ d u, v = .str (chr1 d) u ∧ tsLive T q' t c ∧ c.rest.length + c.acc.length + 1 ≤ 10000 ∧ tokGo cs = bGo (d :: c.rest) c.acc) (fun c => tsDead c ∧ tokGo cs = (c.acc, [])) (fun c => c.rest.length) ⟨rest, acc, itO q' t, ss, sn, tl, _⟩ rfl rfl F5 N5 ⟨rfl, rfl, rfl, trivial⟩ ?hpB ?turnB ?bodyB ?doneB (by passes_own)
          case hpB => exact ⟨⟨rfl, h2, by (try simp only [List.length_append, List.length_cons, List.length_nil]); dsimp only [List.length_nil, List.length_cons] at *; (walk_at "O"), h4⟩, h6⟩
          case doneB =>
            refine fpTS fun rest acc o ss sn tl tt => ?_
            intro u h tk hR5z F N
            have h4 := hR5z.2
            obtain ⟨h1, h2, h3⟩ := hR5z.1
            clear hR5z
            dsimp only at h1 h2 h3 h4 F N ⊢
            subst h1 h2 h3
            repeat' (first | (walk_at "P") | (walk_at "F"; walk_at "T"))
            walk_at "H"; exact Got.mk ⟨[], acc, itE, [], sn, tl, tt⟩ (by assumption) (by assumption) (fun _ h => h) ⟨rfl, rfl, rfl, trivial⟩ ⟨.inr ⟨⟨rfl, rfl, rfl⟩, h4⟩, Nat.zero_le _⟩
          case turnB =>
            intro c u h tk hR6z F N
            have hc := hR6z.1
            have ht := hR6z.2
            clear hR6z
            refine ts_turn hT.2 ok' hnI lq1 lI (by assumption) (by assumption) (by assumption) (by rfl) (by assumption) (by ktr_room) (by ktr_units) _ _ c F N hc ?_ ?_
            · intro e sn tl
              rw [e] at ht
              exact ⟨⟨rfl, rfl, rfl⟩, ht⟩
            · intro d r e ss sn tl v hl hb
              rw [e] at ht
              exact ⟨d, v, rfl, hl, hb, ht⟩
          case bodyB =>
            refine fpTS fun rest acc o ss sn tl tt => ?_
            intro v u h tk hR7z F N
            (refine Uc.ex2 hR7z fun d u => Uc.an4 fun e1q w6q hb h6 => ?_; clear hR7z; subst e1q); (refine Uc.ah4 w6q fun h1 h2 h3 h4 => ?_; clear w6q)
            dsimp only at h1 h2 h3 h4 hb h6 F N ⊢
            subst h1
            dsimp only [tsLed, tsNms, lexLed, List.cons_append, List.nil_append] at F N
            repeat' (first | (walk_at "P") | (walk_at "F"; first | ((with_reducible show wpAny _ _ (inplaceOp _ _ _) _ _ _); (dsimp only; (with_reducible show wpAny _ _ (inplaceOp Operator.Add (Value.str _ _) (Value.str _ _)) _ _ _); (refine SB.iadd ?_ (by first | exact Uc.add_fits (by (walk_at "O")) (Uc.take1_le _) | exact Uc.add_fits (by (walk_at "O")) (by rfl) | exact Uc.add_fits (by (walk_at "O")) (Nat.le_refl _) | exact Uc.add_fits (by (walk_at "O")) (Nat.zero_le _))); intro _ _; (first | rw [Uc.appT] | rw [Uc.app1] | rw [Uc.app1c] | rw [Uc.app0]))) | (walk_at "T")))
            · rename (chr1 d == Str.ofString "\\") = true => hc
              rw [chr1_eq (c := 92) (by rfl), beq_iff_eq] at hc
              (refine read_any w p loose mean mg mb ((I, itO q' t) :: (q', methodObj (.ref 56) (.ref q.X)) :: news) q T tl [] pn ss sn rest h2 (by (walk_at "O")) ⟨h4, hT.2⟩ ok' _ _ _ _ _ _ _ _ _ _ _ _ _ _ _ _ _ (by assumption) (by assumption) (by assumption) (by assumption) (by assumption) (by first | assumption | rfl) ?pre (by first | assumption | exact Uc.room3 (by assumption) (by decide) | exact Uc.room2 (by assumption) (by decide) | ktr_room) (by first | assumption | exact Uc.room3 (by assumption) (by decide) | exact Uc.room2 (by assumption) (by decide) | ktr_units) ?_); (case pre => first | exact trivial | assumption)
              first | refine kE4pnv ?_ | refine kE4pvn ?_
              intro tl' ss' sn' u' h' tk' hs' F N
              dsimp only [lexLed, List.cons_append, List.nil_append] at N
              repeat' (first | (walk_at "P") | (walk_at "F"; first | ((with_reducible show wpAny _ _ (inplaceOp _ _ _) _ _ _); (dsimp only; (with_reducible show wpAny _ _ (inplaceOp Operator.Add (Value.str _ _) (Value.str _ _)) _ _ _); (refine SB.iadd ?_ (by first | exact Uc.add_fits (by (walk_at "O")) (Uc.take1_le _) | exact Uc.add_fits (by (walk_at "O")) (by rfl) | exact Uc.add_fits (by (walk_at "O")) (Nat.le_refl _) | exact Uc.add_fits (by (walk_at "O")) (Nat.zero_le _))); intro _ _; (first | rw [Uc.appT] | rw [Uc.app1] | rw [Uc.app1c] | rw [Uc.app0]))) | (walk_at "T")))
              have h4' : (rest.tail.count 10 : Int) ≤ T := Int.le_trans (Int.ofNat_le.mpr (cnt_tail rest)) h4
              walk_at "H"; exact Got.mk ⟨rest.tail, acc ++ rest.take 1, itO q' t, ss', sn', tl', _⟩ (by assumption) (by assumption) (fun _ h => h) ⟨rfl, rfl, rfl, trivial⟩ ⟨⟨⟨rfl, hs', Nat.le_trans (len_ta rest acc) (by (walk_at "O")), h4'⟩, by rw [h6, hc]; exact b_ea _ _⟩, len_tail rest⟩
            · rename (List.isEmpty _) = true => hc
              rename (chr1 d == Str.ofString "\\") = false => hc2
              rw [ws_occ, Bool.not_eq_true'] at hc
              rw [chr1_eq (c := 92) (by rfl), beq_eq_false_iff_ne] at hc2
              rw [b_b hc hc2] at h6
              (try dsimp only)
              walk_at "H"; exact Got.mk ⟨rest, acc ++ [d], itO q' t, ss, sn, tl, _⟩ (by assumption) (by assumption) (fun _ h => h) ⟨rfl, rfl, rfl, trivial⟩ ⟨⟨⟨rfl, h2, by simp only [List.length_append, List.length_cons, List.length_nil] at *; (walk_at "O"), h4⟩, h6⟩, Nat.le_refl _⟩
            · rename (List.isEmpty _) = false => hc
              rw [ws_occ, Bool.not_eq_false'] at hc
              rw [b_w hc] at h6
              (try dsimp only)
              walk_at "H"
              refine GotF.ret ?_
              walk_at "H"
              repeat' (first | (walk_at "P") | (walk_at "F"; walk_at "T"))
              rename News _ _ _ _ => N7
              have N6 := News.sub (b := lexLed w q (T - (rest.count 10 : Int)) tl [] pn ss sn ++ news) N7 (perm_no (l := lexLed w q (T - (rest.count 10 : Int)) tl [] pn ss sn) (n := news))
              rw [h6] at hret
              exact hret _ _ _ _ (Uc.ei5 tl pn ss sn tt ⟨rfl, h2, rfl⟩) (by assumption) N6
      · rename (List.isEmpty _) = false => hw
        rw [ws_occ, Bool.not_eq_false'] at hw
        (try dsimp only)
        walk_at "H"; exact Got.mk ⟨rest, [], itO q' t, ss, sn, tl, tt⟩ (by assumption) (by assumption) (fun _ h => h) ⟨rfl, rfl, rfl, trivial⟩ ⟨.inl ⟨⟨rfl, h2, h3, h4⟩, rfl, by rw [h6, tok_ws hw]⟩, Nat.le_refl _⟩
end
end Uc
end
section
namespace Uc
section
variable (w : World) (p : Program) (loose : List Str) (mean : ExcName → Option Value) (mg mb : Str → Option Value)
theorem push_c (news : List (Addr × Obj)) (q : Lex) (ln : Int) (tl : Tok) (ps : List Value) (pn : Nat) (ss : List Value) (sn : Nat) (v : Value) (hlen : ps.length ≤ 1000) (ok : LexOk q news) :
    Con w p loose mean mg mb 70 12 40 [.ref q.X, v] (lexLed w q ln tl ps pn ss sn ++ news) (fun h => CodeHd h 213 209) (fun r n => ∃ pn', n = lexLed w q ln tl (ps ++ [v]) pn' ss sn ++ news ∧ r = .none) := by
  have o1 := ltN ok.o1
  have o2 := ltN ok.o2
  have o3 := ltN ok.o3
  have o4 := ltN ok.o4
  have o5 := ltN ok.o5
  have o6 := ltN ok.o6
  have o7 := ltN ok.o7
  have o8 := ltN ok.o8
  have n1 := ok.n1
  have n2 := ok.n2
  have n3 := ok.n3
  dsimp only [Con, Pm, lexLed, List.cons_append, List.nil_append]
  k_fill
  intros
  rename_i hret
  refine wpAny_call ?_
  k_dflt cell_enter
  repeat' (first | (walk_at "P") | (walk_at "F"; first | ((with_reducible show wpAny _ _ (callWith _ (Value.builtin _) _ _ _) _ _ _); dsimp only; first | ((with_reducible show wpAny _ _ (callWith _ (Value.builtin "list.append") _ _ _) _ _ _); refine callWith_method1 ?_) | ((with_reducible show wpAny _ _ (callWith _ (Value.builtin "str.join") _ _ _) _ _ _); refine callWith_method1 ?_)) | (walk_at "T")))
  rename News _ _ _ (_ :: _ :: _ :: _ :: _ :: _ :: _ :: _ :: _ :: news) => N1
  try simp only [List.push_toArray] at N1
  exact hret _ _ _ _ ⟨_, rfl, rfl⟩ (by assumption) N1
theorem get_pushed (news : List (Addr × Obj)) (q : Lex) (ln : Int) (tl : Tok) (v : Value) (ps : List Value) (pn : Nat) (ss : List Value) (sn : Nat) (hlen : ps.length ≤ 1000) (ok : LexOk q news) :
    Con w p loose mean mg mb 63 16 60 [.ref q.X] (lexLed w q ln tl (v :: ps) pn ss sn ++ news) (fun h => CodeHd h 213 209) (fun r n => ∃ pn', n = lexLed w q ln tl ps pn' ss sn ++ news ∧ r = v) := by
  have o1 := ltN ok.o1
  have o2 := ltN ok.o2
  have o3 := ltN ok.o3
  have o4 := ltN ok.o4
  have o5 := ltN ok.o5
  have o6 := ltN ok.o6
  have o7 := ltN ok.o7
  have o8 := ltN ok.o8
  have n1 := ok.n1
  have n2 := ok.n2
  have n3 := ok.n3
  dsimp only [Con, Pm, lexLed, List.cons_append, List.nil_append]
  k_fill
  intros
  rename_i hret
  refine wpAny_call ?_
  k_dflt cell_enter
  repeat' (first | (walk_at "P") | (walk_at "F"; walk_at "T"))
  have hl : (v :: ps).length ≤ 1001 := by rw [List.length_cons]; (walk_at "O")
  have hsz : (v :: ps).length ≤ sizeLine := Nat.le_trans hl (by decide)
  rename News _ _ _ _ => N1
  refine wpAny_truthy_list (News.isList N1 (by k_mem)) (by rw [List.size_toArray]; (walk_at "O")) ?_
  rw [show (!(v :: ps).toArray.isEmpty) = true from rfl]
  repeat' (first | (walk_at "P") | (walk_at "F"; walk_at "T"))
  refine kl_popAt (its := (v :: ps).toArray) (k := 0) (p := []) (q := ps) (by assumption) (by assumption) rfl (by rw [List.size_toArray]; simp [seqIndex?]) rfl (by k_dflt k_upd) hsz ?_
  intro h' F' N'
  dsimp only [List.nil_append] at N'
  repeat' (first | (walk_at "P") | (walk_at "F"; walk_at "T"))
  exact hret _ _ _ _ ⟨_, rfl, rfl⟩ (by assumption) (by assumption)
end
end Uc
end
section
namespace Uc
noncomputable def bases : List Nat := [97, 119808, 119860, 119912, 120172, 120224, 120276, 120328, 120380, 120432]
noncomputable def spell : Nat → List Nat → Nat → List Nat
  | 0, _, _ => []
  | _, [], _ => []
  | k + 1, c :: r, rest =>
    let p := (c :: r).take (3 - rest % 3)
    if p = [102, 102, 105] then 64259 :: spell k ((c :: r).drop 3) (rest / 30)
    else if p = [102, 102] then 64256 :: spell k ((c :: r).drop 2) (rest / 30)
    else if p = [102, 105] then 64257 :: spell k ((c :: r).drop 2) (rest / 30)
    else (if c = 70 ∨ c = 73 then c else bases.getD (rest / 3 % 10) 97 + c - 97) :: spell k r (rest / 30)
noncomputable def typedOf (t : List Nat) (n : Nat) : List Nat := spell t.length t n
noncomputable def b1S : List Nat := [173, 847, 6150, 6155, 6156, 6157, 8203, 8204, 8205, 8288, 65279]
noncomputable def signOf (n : Nat) : Nat := if n % 27 < 11 then b1S.getD (n % 27) 0 else 65013 + n % 27
noncomputable def rawOf (t : List Nat) (n : Nat) : List Nat := let y := typedOf t n; let p := n / 27 % (y.length + 1); y.take p ++ signOf n :: y.drop p
noncomputable def quoted (raw : List Nat) (n : Nat) : List Nat := if n / 7 % 3 = 0 then 34 :: 92 :: raw ++ [34] else if n / 7 % 3 = 1 then (raw.map fun c => [92, c]).flatten else raw
noncomputable def wsS : List Nat := [32, 10, 9, 13]
noncomputable def spelled (t : List Nat) (n : Nat) : List Nat := quoted (rawOf t n) n ++ [wsS.getD (n / 21 % 4) 0]
theorem slice_take (l : List Nat) (k : Nat) (z : Int) (hz : z = (k : Int)) : Txt.slice ⟨l.toArray⟩ none (some z) = ⟨(l.take k).toArray⟩ := by
  subst hz
  rw [slT]
theorem slice_drop (l : List Nat) (k : Nat) (z : Int) (hz : z = (k : Int)) : Txt.slice ⟨l.toArray⟩ (some z) none = ⟨(l.drop k).toArray⟩ := by
  subst hz
  rw [slF]
theorem spell_eq (k c : Nat) (t : List Nat) (r : Nat) : spell (k + 1) (c :: t) r = if (c :: t).take (3 - r % 3) = [102, 102, 105] then 64259 :: spell k ((c :: t).drop 3) (r / 30)
    else if (c :: t).take (3 - r % 3) = [102, 102] then 64256 :: spell k ((c :: t).drop 2) (r / 30)
    else if (c :: t).take (3 - r % 3) = [102, 105] then 64257 :: spell k ((c :: t).drop 2) (r / 30)
    else (if c = 70 ∨ c = 73 then c else bases.getD (r / 3 % 10) 97 + c - 97) :: spell k t (r / 30) := rfl
theorem base_eq (r : Nat) : ([97, 119808, 119860, 119912, 120172, 120224, 120276, 120328, 120380, 120432] : List Int).getD (((r : Int).fdiv 3).fmod 10).toNat 0 = ((bases.getD (r / 3 % 10) 97 : Nat) : Int) := by
  have e : (((r : Int).fdiv 3).fmod 10).toNat = r / 3 % 10 := by
    rw [Int.fdiv_eq_ediv_of_nonneg _ (by decide), Int.fmod_eq_emod_of_nonneg _ (by decide)]
    (walk_at "O")
  rw [e]
  have h : r / 3 % 10 < 10 := Nat.mod_lt _ (by decide)
  generalize r / 3 % 10 = z at h
  revert z
  decide +kernel
theorem base_in (r : Nat) : bases.getD (r / 3 % 10) 97 ∈ bases := by
  have h : r / 3 % 10 < 10 := Nat.mod_lt _ (by decide)
  generalize r / 3 % 10 = z at h
  revert z
  decide +kernel
theorem base_rng {b : Nat} (h : b ∈ bases) : 97 ≤ b ∧ b ≤ 120432 := by
  revert b
  decide
theorem fi_occ {c : Nat} (h : c = 102 ∨ c = 105 ∨ c = 70 ∨ c = 73) : (Builtin.Str.occurrences (Str.ofString "FI") (chr1 c) 0 (Str.ofString "FI").length 1).isEmpty = !(decide (c = 70 ∨ c = 73)) := by
  rcases h with rfl | rfl | rfl | rfl <;> decide +kernel
theorem fdiv_nat (r k : Nat) : (r : Int).fdiv (k : Int) = ((r / k : Nat) : Int) := by
  rw [Int.fdiv_eq_ediv_of_nonneg _ (by (walk_at "O"))]; rfl
theorem fmod_nat (r k : Nat) : (r : Int).fmod (k : Int) = ((r % k : Nat) : Int) := by
  rw [Int.fmod_eq_emod_of_nonneg _ (by (walk_at "O"))]; rfl
theorem no_lig {P : List Nat} (h1 : ¬ P = [102, 102, 105]) (h2 : ¬ P = [102, 102]) (h3 : ¬ P = [102, 105]) : ([Str.ofString "ffi", Str.ofString "ff", Str.ofString "fi"].any fun x => x == (⟨P.toArray⟩ : Str)) = false := by
  rw [show Str.ofString "ffi" = (⟨[102, 102, 105].toArray⟩ : Str) from by rfl, show Str.ofString "ff" = (⟨[102, 102].toArray⟩ : Str) from by rfl, show Str.ofString "fi" = (⟨[102, 105].toArray⟩ : Str) from by rfl]
  have ne : ∀ Q : List Nat, ¬ P = Q → ((⟨Q.toArray⟩ : Str) == (⟨P.toArray⟩ : Str)) = false := fun Q h => by
    rw [beq_eq_false_iff_ne]
    intro e
    injection e with e
    exact h (by simpa using e.symm)
  simp only [List.any_cons, List.any_nil, ne _ h1, ne _ h2, ne _ h3, Bool.or_false]
theorem strs_snoc {vs : List Value} {y : List Nat} {d : Nat} {t : Tok} (h : StrsAre vs (chrs y)) : StrsAre (vs ++ [.str (chr1 d) t]) (chrs (y ++ [d])) := by
  unfold chrs at h ⊢
  rw [List.map_append]
  exact StrsAre.append' h (.cons _ _ .nil)
theorem strs_snoc' {vs : List Value} {y : List Nat} {d : Nat} {t : Tok} {x : Str} (h : StrsAre vs (chrs y)) (e : x = chr1 d) : StrsAre (vs ++ [.str x t]) (chrs (y ++ [d])) := e ▸ strs_snoc h
theorem chrs_sum : ∀ l : List Nat, ((chrs l).map (·.length)).sum = l.length
  | [] => rfl
  | c :: l => by
    have := chrs_sum l
    unfold chrs at this ⊢
    rw [List.map_cons, List.map_cons, List.sum_cons, this, List.length_cons]
    show 1 + _ = _
    (walk_at "O")
theorem chrs_w {l : List Nat} (h : l.length ≤ 10000) : ((chrs l).map (·.length)).sum + (chrs l).length ≤ 1048576 := by
  rw [chrs_sum]
  unfold chrs
  rw [List.length_map]
  (walk_at "O")
theorem app2 (a b : List Nat) : (⟨a.toArray⟩ : Str) ++ (⟨b.toArray⟩ : Str) = ⟨(a ++ b).toArray⟩ := by
  show (⟨a.toArray ++ b.toArray⟩ : Str) = _
  simp
theorem join_chrs (l : List Nat) : Txt.join (Str.ofString "") (chrs l) = ⟨l.toArray⟩ := by
  rw [show Txt.join (Str.ofString "") (chrs l) = Str.join (Str.ofString "") (chrs l) from eq_of_beq (join_plain_closes _ _)]
  induction l with
  | nil => rfl
  | cons c l ih =>
    cases l with
    | nil => rfl
    | cons d l =>
      show chr1 c ++ Str.ofString "" ++ Str.join (Str.ofString "") (chrs (d :: l)) = _
      rw [ih, show Str.ofString "" = (⟨([] : List Nat).toArray⟩ : Str) from by rfl, show chr1 c = (⟨[c].toArray⟩ : Str) from rfl, app2, app2]
      rfl
theorem add_fits2 {a b : List Nat} (h : a.length ≤ 20000) (h' : b.length ≤ 20000) : (⟨a.toArray⟩ : Str).length + (⟨b.toArray⟩ : Str).length ≤ sizeLine := by
  have e : ∀ a : List Nat, (⟨a.toArray⟩ : Str).length = a.length := fun a => by show a.toArray.size = _; simp
  rw [e, e, sizeLine_eq]
  (walk_at "O")
theorem sign_lo (n : Nat) (h : (n : Int).fmod 27 < 11) : Txt.item (Str.ofString "\u00ad\u034f\u1806\u180b\u180c\u180d\u200b\u200c\u200d\u2060\ufeff") ((n : Int).fmod 27) = ⟨[signOf n].toArray⟩ := by
  have e : (n : Int).fmod 27 = ((n % 27 : Nat) : Int) := fmod_nat n 27
  rw [e] at h ⊢
  unfold signOf
  have h' : n % 27 < 11 := by (walk_at "O")
  rw [if_pos h']
  generalize n % 27 = z at h'
  clear h
  revert z
  decide +kernel
theorem sign_hi (n : Nat) (h : ¬ (n : Int).fmod 27 < 11) : (⟨#[(65013 + (n : Int).fmod 27).toNat]⟩ : Str) = ⟨[signOf n].toArray⟩ := by
  have e : (n : Int).fmod 27 = ((n % 27 : Nat) : Int) := fmod_nat n 27
  rw [e] at h ⊢
  unfold signOf
  rw [if_neg (by (walk_at "O"))]
  exact congrArg (fun z : Nat => (⟨#[z]⟩ : Str)) (by (walk_at "O"))
theorem appQ1 (b : List Nat) : Str.ofString "\"\\" ++ (⟨b.toArray⟩ : Str) = ⟨(34 :: 92 :: b).toArray⟩ := by
  rw [show Str.ofString "\"\\" = (⟨[34, 92].toArray⟩ : Str) from by rfl, app2]; rfl
theorem appQ2 (a : List Nat) : (⟨a.toArray⟩ : Str) ++ Str.ofString "\"" = ⟨(a ++ [34]).toArray⟩ := by
  rw [show Str.ofString "\"" = (⟨[34].toArray⟩ : Str) from by rfl, app2]
theorem appB (b : List Nat) : Str.ofString "\\" ++ (⟨b.toArray⟩ : Str) = ⟨(92 :: b).toArray⟩ := by
  rw [show Str.ofString "\\" = (⟨[92].toArray⟩ : Str) from by rfl, app2]; rfl
theorem ws_item (n : Nat) : Txt.item (Str.ofString " \n\t\r") (((n : Int).fdiv 21).fmod 4) = ⟨[wsS.getD (n / 21 % 4) 0].toArray⟩ := by
  have e : ((n : Int).fdiv 21).fmod 4 = ((n / 21 % 4 : Nat) : Int) := (congrArg (Int.fmod · 4) (fdiv_nat n 21)).trans (fmod_nat _ 4)
  rw [e]
  have h : n / 21 % 4 < 4 := Nat.mod_lt _ (by decide)
  generalize n / 21 % 4 = z at h
  revert z
  decide +kernel
theorem fits_c {x y : Str} (h : x.length ≤ 10) (h' : y.length ≤ 20000) : x.length + y.length ≤ sizeLine := by rw [sizeLine_eq]; (walk_at "O")
theorem fits_d {x y : Str} (h : y.length ≤ 10) (h' : x.length ≤ 20000) : x.length + y.length ≤ sizeLine := by rw [sizeLine_eq]; (walk_at "O")
theorem len_mk (a : List Nat) : (⟨a.toArray⟩ : Str).length = a.length := by show a.toArray.size = _; simp
theorem raw_len {x : List Nat} {n : Nat} (h : (typedOf x n).length ≤ 3) : (rawOf x n).length ≤ 4 := by
  unfold rawOf
  rw [List.length_append, List.length_cons, List.length_take, List.length_drop]
  generalize n / 27 % ((typedOf x n).length + 1) = k
  have h2 : min k (typedOf x n).length + ((typedOf x n).length - k) ≤ (typedOf x n).length := (Nat.le_total k (typedOf x n).length).elim (fun q => by rw [Nat.min_eq_left q, Nat.add_sub_cancel' q]; exact Nat.le_refl _) fun q => by rw [Nat.sub_eq_zero_of_le q]; exact Nat.min_le_right _ _
  exact Nat.succ_le_succ (Nat.le_trans h2 h)
theorem raw_is {x y : List Nat} {n : Nat} (h : typedOf x n = y) : y.take (n / 27 % (y.length + 1)) ++ [signOf n] ++ y.drop (n / 27 % (y.length + 1)) = rawOf x n := by
  subst h
  unfold rawOf
  rw [List.append_assoc]
  rfl
noncomputable def esc1 (c : Nat) : Str := ⟨[92, c].toArray⟩
theorem join_esc (l : List Nat) : Txt.join (Str.ofString "") (l.map esc1) = ⟨((l.map fun c => [92, c]).flatten).toArray⟩ := by
  rw [show Txt.join (Str.ofString "") (l.map esc1) = Str.join (Str.ofString "") (l.map esc1) from eq_of_beq (join_plain_closes _ _)]
  induction l with
  | nil => rfl
  | cons c l ih =>
    cases l with
    | nil => rfl
    | cons d l =>
      show esc1 c ++ Str.ofString "" ++ Str.join (Str.ofString "") ((d :: l).map esc1) = _
      rw [ih, show Str.ofString "" = (⟨([] : List Nat).toArray⟩ : Str) from by rfl, show esc1 c = (⟨[92, c].toArray⟩ : Str) from rfl, app2, app2]
      rfl
theorem esc_sum : ∀ l : List Nat, ((l.map esc1).map (·.length)).sum = 2 * l.length
  | [] => rfl
  | c :: l => by
    rw [List.map_cons, List.map_cons, List.sum_cons, esc_sum l, List.length_cons]
    show 2 + _ = _
    (walk_at "O")
theorem esc_w {l : List Nat} (h : l.length ≤ 10000) : ((l.map esc1).map (·.length)).sum + (l.map esc1).length ≤ 1048576 := by
  rw [esc_sum, List.length_map]
  (walk_at "O")
theorem seven (n k : Nat) : ((n : Int).fdiv 7).fmod 3 = (k : Int) ↔ n / 7 % 3 = k := by
  have e : ((n : Int).fdiv 7).fmod 3 = ((n / 7 % 3 : Nat) : Int) := (congrArg (Int.fmod · 3) (fdiv_nat n 7)).trans (fmod_nat _ 3)
  rw [e]
  (walk_at "O")
theorem spelled_0 {x : List Nat} {n : Nat} (h : n / 7 % 3 = 0) : spelled x n = 34 :: 92 :: rawOf x n ++ [34] ++ [wsS.getD (n / 21 % 4) 0] := by
  unfold spelled quoted
  rw [if_pos h]
theorem spelled_1 {x : List Nat} {n : Nat} (h : n / 7 % 3 = 1) : spelled x n = ((rawOf x n).map fun c => [92, c]).flatten ++ [wsS.getD (n / 21 % 4) 0] := by
  unfold spelled quoted
  rw [if_neg (by (walk_at "O")), if_pos h]
theorem spelled_2 {x : List Nat} {n : Nat} (h : ¬ n / 7 % 3 = 0) (h' : ¬ n / 7 % 3 = 1) : spelled x n = rawOf x n ++ [wsS.getD (n / 21 % 4) 0] := by
  unfold spelled quoted
  rw [if_neg h, if_neg h']
end Uc
end
section
namespace Uc
noncomputable def turned (c d : Nat) : Int := if c = d then 0 else if Txt.lower ⟨#[c]⟩ = Txt.lower ⟨#[d]⟩ then 1 else 2
noncomputable def row0F (y : List Nat) : List Int := (List.range (y.length + 1)).map fun (k : Nat) => 2 * ((y.length : Int) - (k : Int))
noncomputable def farRow (c : Nat) : List Nat → List Int → List Int
  | [], bs => [bs.headD 0 + 2]
  | d :: y, bs => let ps := farRow c y bs.tail; min (min (turned c d + bs.tail.headD 0) (2 + bs.headD 0)) (2 + ps.headD 0) :: ps
noncomputable def farFold (y : List Nat) (l : List Nat) (bs : List Int) : List Int := l.foldl (fun b c => farRow c y b) bs
noncomputable def farOf (x y : List Nat) : Int := (farFold y x.reverse (row0F y)).headD 0
theorem farRow_length (c : Nat) : ∀ (y : List Nat) (bs : List Int), (farRow c y bs).length = y.length + 1
  | [], bs => rfl
  | d :: y, bs => by
    show (farRow c y bs.tail).length + 1 = _
    rw [farRow_length c y, List.length_cons]
theorem row0F_length (y : List Nat) : (row0F y).length = y.length + 1 := by
  unfold row0F
  rw [List.length_map, List.length_range]
theorem rev_slice (x : List Nat) (u : Tok) : Txt.sliceBy ⟨x.toArray⟩ none none (-1, u) = ⟨x.reverse.toArray⟩ := by
  rw [← fold_front_eq_rev ⟨x.toArray⟩ ⟨#[]⟩ rfl u]
  have h : ∀ (l acc : List Nat), List.foldl (fun (T : Str) (a : Str) => a ++ T) ⟨acc.toArray⟩ (l.map fun c => (⟨#[c]⟩ : Str)) = ⟨(l.reverse ++ acc).toArray⟩ := fun l => by
    induction l with
    | nil => intro acc; rfl
    | cons c l ih =>
      intro acc
      rw [List.map_cons, List.foldl_cons]
      have e : (⟨#[c]⟩ : Str) ++ (⟨acc.toArray⟩ : Str) = ⟨(c :: acc).toArray⟩ := by
        show (⟨#[c] ++ acc.toArray⟩ : Str) = _
        simp
      rw [e, ih]
      simp
  have := h x []
  rw [List.append_nil] at this
  exact this
theorem rng_down {n : Nat} (h : n ≤ 3) : Builtin.Range.small ((n : Int) - 1) (-1) (-1) = true ∧ Builtin.Range.rangeSize ((n : Int) - 1) (-1) (-1) = (n : Int) := by
  match n, h with
  | 0, _ | 1, _ | 2, _ | 3, _ => decide +kernel
theorem row0_of {ys : List Value} {n : Nat} {y : List Nat} (hn : (n : Int) = y.length) (h : IntsAre ys (List.map (fun k' => 2 * ((n : Int) - k')) (rangeKs 0 ((n : Int) + 1 - 0).toNat))) : IntsAre ys (row0F y) := by
  have e : row0F y = List.map (fun k' => 2 * ((n : Int) - k')) (rangeKs 0 ((n : Int) + 1 - 0).toNat) := by
    unfold row0F rangeKs
    rw [List.map_map, show ((n : Int) + 1 - 0).toNat = y.length + 1 by (walk_at "O")]
    apply List.map_congr_left
    intro k _
    show _ = 2 * ((n : Int) - (0 + (k : Int)))
    rw [hn]; (walk_at "O")
  rw [e]; exact h
theorem item_at (y : List Nat) (k : Nat) (h : k < y.length) : Txt.item ⟨y.toArray⟩ (k : Int) = (⟨#[y.getD k 0]⟩ : Str) := by
  unfold Txt.item Txt.charAt seqIndex?
  have hl : (⟨y.toArray⟩ : Str).length = y.length := by show y.toArray.size = _; simp
  rw [hl]
  have e : (decide ((0 : Int) ≤ (k : Int)) && decide ((k : Int) < (y.length : Int))) = true := by simp; (walk_at "O")
  simp only [show ¬ ((k : Int) < 0) by (walk_at "O"), if_false]
  rw [if_pos e]
  simp [List.getD, h]
theorem drop_step {y : List Nat} {j : Nat} (h : j < y.length) : y.drop (y.length - (j + 1)) = y.getD (y.length - 1 - j) 0 :: y.drop (y.length - j) := by
  have hk : y.length - (j + 1) < y.length := sub_s3 h
  rw [List.drop_eq_getElem_cons hk, sub_s1 h]
  congr 1
  rw [sub_s2]
  simp [List.getD, hk]
theorem far_step {c : Nat} {y : List Nat} {ns : List Int} {j : Nat} (h : j < y.length) (hn : ns.length = y.length + 1) : farRow c (y.drop (y.length - (j + 1))) (ns.drop (y.length - (j + 1))) =
    min (min (turned c (y.getD (y.length - 1 - j) 0) + ns.getD (y.length - 1 - j + 1) 0) (2 + ns.getD (y.length - 1 - j) 0)) (2 + (farRow c (y.drop (y.length - j)) (ns.drop (y.length - j))).headD 0) :: farRow c (y.drop (y.length - j)) (ns.drop (y.length - j)) := by
  rw [drop_step h]
  have e1 : (ns.drop (y.length - (j + 1))).tail = ns.drop (y.length - j) := by rw [List.tail_drop, sub_s1 h]
  have hd : ∀ k, k < ns.length → (ns.drop k).headD 0 = ns.getD k 0 := fun k hk => by
    rw [List.drop_eq_getElem_cons hk]
    simp [List.getD, hk]
  show min (min (turned c _ + (ns.drop (y.length - (j + 1))).tail.headD 0) (2 + (ns.drop (y.length - (j + 1))).headD 0)) (2 + (farRow c (y.drop (y.length - j)) (ns.drop (y.length - (j + 1))).tail).headD 0) :: farRow c (y.drop (y.length - j)) (ns.drop (y.length - (j + 1))).tail = _
  rw [e1, hd _ (by rw [hn]; exact Nat.lt_succ_of_le (Nat.sub_le _ _)), hd _ (by rw [hn]; exact Nat.lt_succ_of_le (Nat.sub_le _ _)), sub_s2, sub_s1 h]
theorem chr_inj {c d : Nat} : (⟨#[c]⟩ : Str) = (⟨#[d]⟩ : Str) ↔ c = d := ⟨fun e => by injection e with e; simpa using e, fun e => e ▸ rfl⟩
theorem turned_0 {c d : Nat} (h : (⟨#[c]⟩ : Str) = (⟨#[d]⟩ : Str)) : turned c d = 0 := by unfold turned; rw [if_pos (chr_inj.mp h)]
theorem turned_1 {c d : Nat} (h : (⟨#[c]⟩ : Str) ≠ (⟨#[d]⟩ : Str)) (h' : Txt.lower ⟨#[c]⟩ = Txt.lower ⟨#[d]⟩) : turned c d = 1 := by unfold turned; rw [if_neg (fun e => h (chr_inj.mpr e)), if_pos h']
theorem turned_2 {c d : Nat} (h : (⟨#[c]⟩ : Str) ≠ (⟨#[d]⟩ : Str)) (h' : Txt.lower ⟨#[c]⟩ ≠ Txt.lower ⟨#[d]⟩) : turned c d = 2 := by unfold turned; rw [if_neg (fun e => h (chr_inj.mpr e)), if_neg h']
end Uc
end
section
namespace Uc
noncomputable abbrev Row := Addr × List Value × Nat
noncomputable def matLed (rows : List Row) : Led := rows.map fun r => (r.1, listOf r.2.1.toArray r.2.2)
noncomputable def refsOf (rows : List Row) : List Value := rows.map fun r => .ref r.1
noncomputable def rowAt (rows : List Row) (i : Nat) : Row := rows.getD i (0, [], 0)
theorem rowAt_mem {rows : List Row} {i : Nat} (h : i < rows.length) : rowAt rows i ∈ rows := by
  unfold rowAt
  rw [List.getD_eq_getElem?_getD, List.getElem?_eq_getElem h]
  exact List.getElem_mem h
theorem led_mem {rows : List Row} {r : Row} (h : r ∈ rows) : (r.1, listOf r.2.1.toArray r.2.2) ∈ matLed rows := List.mem_map_of_mem (f := fun r : Row => (r.1, listOf r.2.1.toArray r.2.2)) h
section
variable {prog : Program} {w : World} {A : Around} {E : Value → Shared → Prop} {s : Shared} {h₀ : Heap} {L : Addr} {m : Str → Option Value}
theorem mat_row {rows : List Row} {Pr : Addr} {pc i : Nat} {t : Tok} {news : List (Addr × Obj)} {value slice : Expr} {Q : Value → Shared → Prop} (N : News h₀ L s.heap news) (hm : (Pr, listOf (refsOf rows).toArray pc) ∈ news) (hi : i < rows.length) (hb : i < 1000) (h : Q (.ref (rowAt rows i).1) s)
    (hs : subscripted slice false (.ref Pr) (.int (i : Int) t) = operate [.ref Pr, .int (i : Int) t] (getItem (.ref Pr) (.int (i : Int) t)) := by with_unfolding_all rfl) (hg : ∀ r, letTemporaryGo value (.ref Pr) r = pure () := by intro _; with_unfolding_all rfl) :
    wpAny (model prog w) A (subscriptTail value slice (.ref Pr) (.int (i : Int) t)) Q E s := by
  refine item_list (News.isList N hm) (by (walk_at "O")) (by (walk_at "O")) ?_ h hs hg
  rw [Int.toNat_natCast]
  show (refsOf rows).toArray[i]? = _
  unfold refsOf rowAt
  rw [List.getD_eq_getElem?_getD, List.getElem?_eq_getElem hi]
  simp [hi]
theorem mat_item {rows : List Row} {ns : List Int} {i j : Nat} {t : Tok} {news : List (Addr × Obj)} {value slice : Expr} {Q : Value → Shared → Prop} (N : News h₀ L s.heap news) (hm : ∀ p ∈ matLed rows, p ∈ news) (hi : i < rows.length) (hI : IntsAre (rowAt rows i).2.1 ns) (hj : j < ns.length) (hb : j < 1000) (h : ∀ t', Q (.int (ns.getD j 0) t') s)
    (hs : subscripted slice false (.ref (rowAt rows i).1) (.int (j : Int) t) = operate [.ref (rowAt rows i).1, .int (j : Int) t] (getItem (.ref (rowAt rows i).1) (.int (j : Int) t)) := by with_unfolding_all rfl) (hg : ∀ r, letTemporaryGo value (.ref (rowAt rows i).1) r = pure () := by intro _; with_unfolding_all rfl) :
    wpAny (model prog w) A (subscriptTail value slice (.ref (rowAt rows i).1) (.int (j : Int) t)) Q E s := by
  refine item_list_ints (News.isList N (hm _ (led_mem (rowAt_mem hi)))) hI (by (walk_at "O")) (by (walk_at "O")) (by (walk_at "O")) (fun t' => ?_) hs hg
  rw [Int.toNat_natCast]
  exact h t'
theorem mat_upd {i j : Nat} {v : Value} {rest : Led} : ∀ {rows : List Row} (_ : i < rows.length) (_ : (rows.map (·.1)).Nodup) (_ : ∀ p ∈ rest, ∀ r ∈ rows, p.1 ≠ r.1),
    Upd (rowAt rows i).1 (listOf (rowAt rows i).2.1.toArray (rowAt rows i).2.2) (listOf ((rowAt rows i).2.1.set j v).toArray (rowAt rows i).2.2) (matLed rows ++ rest) (matLed (rows.set i ((rowAt rows i).1, (rowAt rows i).2.1.set j v, (rowAt rows i).2.2)) ++ rest) := by
  intro rows
  induction rows generalizing i with
  | nil => intro h; exact absurd h (Nat.not_lt_zero _)
  | cons r rows ih =>
    intro hi hnd hr
    rw [List.map_cons, List.nodup_cons] at hnd
    cases i with
    | zero =>
      show Upd r.1 _ _ ((r.1, listOf r.2.1.toArray r.2.2) :: (matLed rows ++ rest)) ((r.1, listOf (r.2.1.set j v).toArray r.2.2) :: (matLed rows ++ rest))
      refine .head fun p hp => ?_
      rcases List.mem_append.mp hp with hp | hp
      · obtain ⟨q, hq, rfl⟩ := List.mem_map.mp hp
        exact fun e => hnd.1 (e ▸ List.mem_map_of_mem hq)
      · exact hr p hp r (.head _)
    | succ i =>
      have hi' : i < rows.length := Nat.lt_of_succ_lt_succ hi
      have := ih hi' hnd.2 fun p hp q hq => hr p hp q (.tail _ hq)
      refine .tail ?_ this
      have hm := rowAt_mem hi'
      exact fun e => hnd.1 (by
        have e' : r.1 = (rowAt rows i).1 := e
        rw [e']; exact List.mem_map_of_mem hm)
theorem upd_front {d : Addr} {o o' : Obj} {l l' : Led} (U : Upd d o o' l l') : ∀ {front : Led}, (∀ p ∈ front, p.1 ≠ d) → Upd d o o' (front ++ l) (front ++ l')
  | [], _ => U
  | p :: front, h => .tail (h p (.head _)) (upd_front U fun q hq => h q (.tail _ hq))
theorem mat_set {rows : List Row} {i j : Nat} {t : Tok} {v : Value} {front rest : Led} {Q : Unit → Shared → Prop} (F : Fr h₀ L s.heap m) (N : News h₀ L s.heap (front ++ (matLed rows ++ rest))) (hi : i < rows.length) (hnd : (rows.map (·.1)).Nodup)
    (hr : ∀ p ∈ rest, ∀ r ∈ rows, p.1 ≠ r.1) (hf : ∀ p ∈ front, ∀ r ∈ rows, p.1 ≠ r.1) (hj : j < (rowAt rows i).2.1.length) (hb : j < 1000)
    (h : ∀ h', Fr h₀ L h' m → News h₀ L h' (front ++ (matLed (rows.set i ((rowAt rows i).1, (rowAt rows i).2.1.set j v, (rowAt rows i).2.2)) ++ rest)) → Q () { s with heap := h' }) :
    wpAny (model prog w) A (setItem (.ref (rowAt rows i).1) (.int (j : Int) t) v) Q E s := by
  refine ki_set (its := (rowAt rows i).2.1.toArray) F N (by (walk_at "O")) (by (walk_at "O")) (by rw [Int.toNat_natCast]; exact setL_eq v _ j hj) (upd_front (mat_upd hi hnd hr) fun p hp => hf p hp _ (rowAt_mem hi)) h
end
noncomputable def set2 (M : List (List Int)) (i j : Nat) (x : Int) : List (List Int) := M.set i ((M.getD i []).set j x)
noncomputable def get2 (M : List (List Int)) (i j : Nat) : Int := (M.getD i []).getD j 0
structure MatOk (n : Nat) (rows : List Row) (M : List (List Int)) : Prop where
  l1 : rows.length = n
  l2 : M.length = n
  rowI : ∀ i, i < n → IntsAre (rowAt rows i).2.1 (M.getD i []) ∧ (M.getD i []).length = n
  nd : (rows.map (·.1)).Nodup
theorem getD_set {α : Type} (l : List α) (i k : Nat) (x d : α) (h : i < l.length) : (l.set i x).getD k d = if k = i then x else l.getD k d := by
  rw [List.getD_eq_getElem?_getD, List.getD_eq_getElem?_getD, List.getElem?_set]
  by_cases e : i = k
  · subst e; simp [h]
  · rw [if_neg e, if_neg (fun q => e q.symm)]
theorem rows_addr (rows : List Row) (i : Nat) (vs : List Value) (c : Nat) : (rows.set i ((rowAt rows i).1, vs, c)).map (·.1) = rows.map (·.1) := by
  by_cases h : i < rows.length
  · rw [List.map_set]
    apply List.ext_getElem (by simp)
    intro k h1 h2
    rw [List.getElem_set]
    split
    · rename_i e
      subst e
      unfold rowAt
      rw [List.getD_eq_getElem?_getD, List.getElem?_eq_getElem h]
      simp
    · rfl
  · rw [List.set_eq_of_length_le (by (walk_at "O"))]
theorem refs_set (rows : List Row) (i : Nat) (vs : List Value) (c : Nat) : refsOf (rows.set i ((rowAt rows i).1, vs, c)) = refsOf rows := by
  have := congrArg (List.map Value.ref) (rows_addr rows i vs c)
  rw [List.map_map, List.map_map] at this
  exact this
theorem MatOk.set {n : Nat} {rows : List Row} {M : List (List Int)} (h : MatOk n rows M) {i j : Nat} (hi : i < n) (x : Int) (t : Tok) : MatOk n (rows.set i ((rowAt rows i).1, (rowAt rows i).2.1.set j (.int x t), (rowAt rows i).2.2)) (set2 M i j x) where
  l1 := by rw [List.length_set]; exact h.l1
  l2 := by unfold set2; rw [List.length_set]; exact h.l2
  rowI := fun k hk => by
    have a := h.rowI k hk
    unfold set2
    rw [getD_set _ _ _ _ _ (by rw [h.l2]; exact hi)]
    unfold rowAt
    rw [getD_set _ _ _ _ _ (by rw [h.l1]; exact hi)]
    by_cases e : k = i
    · subst e
      rw [if_pos rfl, if_pos rfl, List.length_set]
      exact ⟨intsAre_set x t a.1 j, a.2⟩
    · rw [if_neg e, if_neg e]
      exact a
  nd := by rw [rows_addr]; exact h.nd
theorem rowAt_addr (rows : List Row) (i k : Nat) (vs : List Value) (c : Nat) : (rowAt (rows.set i ((rowAt rows i).1, vs, c)) k).1 = (rowAt rows k).1 := by
  by_cases h : i < rows.length
  · unfold rowAt
    rw [getD_set _ _ _ _ _ h]
    split
    · rename_i e; rw [e]
    · rfl
  · rw [List.set_eq_of_length_le (by (walk_at "O"))]
theorem off_set {rows : List Row} {l : Led} (h : ∀ p ∈ l, ∀ r ∈ rows, p.1 ≠ r.1) (i : Nat) (vs : List Value) (c : Nat) : ∀ p ∈ l, ∀ r ∈ rows.set i ((rowAt rows i).1, vs, c), p.1 ≠ r.1 := fun p hp r hr => by
  have : r.1 ∈ (rows.set i ((rowAt rows i).1, vs, c)).map (·.1) := List.mem_map_of_mem hr
  rw [rows_addr] at this
  obtain ⟨q, hq, e⟩ := List.mem_map.mp this
  rw [← e]
  exact h p hp q hq
theorem name5 {a I C D d : Addr} {l : Led} (h : @LT.lt Nat _ a d ∧ @LT.lt Nat _ I d ∧ @LT.lt Nat _ C d ∧ @LT.lt Nat _ D d ∧ AllLt d l) : ∃ k, k = d ∧ @LT.lt Nat _ I k ∧ @LT.lt Nat _ C k ∧ @LT.lt Nat _ D k ∧ AllLt k l := ⟨d, rfl, h.2⟩
theorem matLed_snoc (rows : List Row) (r : Row) : matLed (rows ++ [r]) = matLed rows ++ [(r.1, listOf r.2.1.toArray r.2.2)] := by unfold matLed; rw [List.map_append]; rfl
theorem rows_lt {rows : List Row} {d : Addr} {l : Led} (h : AllLt d (matLed rows ++ l)) : ∀ r ∈ rows, @LT.lt Nat _ r.1 d := fun r hr => allLt_all h _ (List.mem_append_left _ (led_mem hr))
theorem nodup_snoc {rows : List Row} {r : Row} (h : (rows.map (·.1)).Nodup) (hl : ∀ q ∈ rows, @LT.lt Nat _ q.1 r.1) : ((rows ++ [r]).map (·.1)).Nodup := by
  rw [List.map_append, List.nodup_append]
  refine ⟨h, by simp, fun a ha b hb => ?_⟩
  obtain ⟨q, hq, rfl⟩ := List.mem_map.mp ha
  simp only [List.map_cons, List.map_nil, List.mem_singleton] at hb
  rw [hb]
  exact Nat.ne_of_lt (hl q hq)
theorem matOk_zero {rows : List Row} (h1 : rows.length = 5) (h2 : ∀ r ∈ rows, IntsAre r.2.1 (List.replicate 5 0)) (h3 : (rows.map (·.1)).Nodup) : MatOk 5 rows (List.replicate 5 (List.replicate 5 0)) where
  l1 := h1
  l2 := rfl
  rowI := fun i hi => by
    have e : (List.replicate 5 (List.replicate 5 (0 : Int))).getD i [] = List.replicate 5 0 := by
      exact (by decide : ∀ i < 5, (List.replicate 5 (List.replicate 5 (0 : Int))).getD i [] = List.replicate 5 0) i hi
    rw [e]
    exact ⟨h2 _ (rowAt_mem (by (walk_at "O"))), rfl⟩
  nd := h3
structure RowsOk (rs : List Value) (l : Led) (rows : List Row) (M : List (List Int)) : Prop where
  ok : MatOk 5 rows M
  refs : refsOf rows = rs
  off : ∀ p ∈ l, ∀ r ∈ rows, p.1 ≠ r.1
theorem RowsOk.set {rs : List Value} {l : Led} {rows : List Row} {M : List (List Int)} (h : RowsOk rs l rows M) {i j : Nat} (hi : i < 5) (x : Int) (t : Tok) : RowsOk rs l (rows.set i ((rowAt rows i).1, (rowAt rows i).2.1.set j (.int x t), (rowAt rows i).2.2)) (set2 M i j x) where
  ok := h.ok.set hi x t
  refs := by rw [refs_set]; exact h.refs
  off := off_set h.off i _ _
theorem perm1 {α : Type} {a b x : α} {l n : List α} : ∀ p ∈ a :: b :: (l ++ (n ++ [x])), p ∈ (a :: b :: (l ++ n)) ++ [x] := fun p hp => by
  simp only [List.mem_cons, List.mem_append, List.cons_append, List.append_assoc] at hp ⊢
  exact hp
theorem perm2 {α : Type} {a b x : α} {l n : List α} : ∀ p ∈ (a :: b :: (l ++ n)) ++ [x], p ∈ a :: b :: (l ++ (n ++ [x])) := fun p hp => by
  simp only [List.mem_cons, List.mem_append, List.cons_append, List.append_assoc] at hp ⊢
  exact hp
section
variable {prog : Program} {w : World} {A : Around} {E : Value → Shared → Prop} {s : Shared} {h₀ : Heap} {L : Addr} {m : Str → Option Value}
theorem rows_row {rs : List Value} {l rest : Led} {rows : List Row} {M : List (List Int)} {Pr : Addr} {pc i : Nat} {t : Tok} {a : Addr × Obj} {value slice : Expr} {Q : Value → Shared → Prop} (R : RowsOk rs l rows M) (N : News h₀ L s.heap (a :: (Pr, listOf rs.toArray pc) :: rest)) (hi : i < 5) (h : Q (.ref (rowAt rows i).1) s)
    (hs : subscripted slice false (.ref Pr) (.int (i : Int) t) = operate [.ref Pr, .int (i : Int) t] (getItem (.ref Pr) (.int (i : Int) t)) := by with_unfolding_all rfl) (hg : ∀ r, letTemporaryGo value (.ref Pr) r = pure () := by intro _; with_unfolding_all rfl) :
    wpAny (model prog w) A (subscriptTail value slice (.ref Pr) (.int (i : Int) t)) Q E s := by
  refine mat_row (pc := pc) N (by rw [R.refs]; exact .tail _ (.head _)) (by rw [R.ok.l1]; exact hi) (by (walk_at "O")) h hs hg
theorem rows_item {rs : List Value} {l rest : Led} {rows : List Row} {M : List (List Int)} {i j : Nat} {t : Tok} {a b : Addr × Obj} {value slice : Expr} {Q : Value → Shared → Prop} (R : RowsOk rs l rows M) (N : News h₀ L s.heap (a :: b :: (matLed rows ++ rest))) (hi : i < 5) (hj : j < 5) (h : ∀ t', Q (.int (get2 M i j) t') s)
    (hs : subscripted slice false (.ref (rowAt rows i).1) (.int (j : Int) t) = operate [.ref (rowAt rows i).1, .int (j : Int) t] (getItem (.ref (rowAt rows i).1) (.int (j : Int) t)) := by with_unfolding_all rfl) (hg : ∀ r, letTemporaryGo value (.ref (rowAt rows i).1) r = pure () := by intro _; with_unfolding_all rfl) :
    wpAny (model prog w) A (subscriptTail value slice (.ref (rowAt rows i).1) (.int (j : Int) t)) Q E s := by
  have r := R.ok.rowI i hi
  refine mat_item N (fun p hp => .tail _ (.tail _ (List.mem_append_left _ hp))) (by rw [R.ok.l1]; exact hi) r.1 (by rw [r.2]; exact hj) (by (walk_at "O")) h hs hg
theorem rows_set {rs : List Value} {l rest : Led} {rows : List Row} {M : List (List Int)} {i j : Nat} {t tv : Tok} {x : Int} {a b : Addr × Obj} {Q : Unit → Shared → Prop} (R : RowsOk rs l rows M) (F : Fr h₀ L s.heap m) (N : News h₀ L s.heap (a :: b :: (matLed rows ++ rest))) (hi : i < 5) (hj : j < 5)
    (hl : ∀ p ∈ a :: b :: rest, p ∈ l ∨ ∀ r ∈ rows, p.1 ≠ r.1)
    (h : ∀ h' rows', RowsOk rs l rows' (set2 M i j x) → (∀ k, (rowAt rows' k).1 = (rowAt rows k).1) → (∀ p ∈ a :: b :: rest, p ∈ l ∨ ∀ r ∈ rows', p.1 ≠ r.1) → Fr h₀ L h' m → News h₀ L h' (a :: b :: (matLed rows' ++ rest)) → Q () { s with heap := h' }) :
    wpAny (model prog w) A (setItem (.ref (rowAt rows i).1) (.int (j : Int) t) (.int x tv)) Q E s := by
  have r := R.ok.rowI i hi
  have hof : ∀ p ∈ a :: b :: rest, ∀ r ∈ rows, p.1 ≠ r.1 := fun p hp => (hl p hp).elim (fun q => R.off p q) id
  refine mat_set (front := [a, b]) F N (by rw [R.ok.l1]; exact hi) R.ok.nd (fun p hp => hof p (.tail _ (.tail _ hp))) (fun p hp => hof p ?_) (by have h1 := intsAre_len r.1; have h2 := r.2; (walk_at "O")) (by (walk_at "O")) fun h' F' N' => ?_
  · rcases List.mem_cons.mp hp with rfl | hp
    · exact .head _
    rcases List.mem_cons.mp hp with rfl | hp
    · exact .tail _ (.head _)
    cases hp
  · refine h h' _ (R.set hi x tv) (fun k => rowAt_addr rows i k _ _) (fun p hp => ?_) F' N'
    rcases hl p hp with q | q
    · exact .inl q
    · refine .inr ?_
      have := off_set (rows := rows) (l := [p]) (by intro p' hp' r hr; rw [List.mem_singleton.mp hp']; exact q r hr) i ((rowAt rows i).2.1.set j (.int x tv)) (rowAt rows i).2.2
      exact this p (.head _)
end
section
variable {prog : Program} {w : World} {A : Around} {E : Value → Shared → Prop} {s : Shared} {h₀ : Heap} {L : Addr} {m : Str → Option Value}
theorem min2_K {a b : Int} {t u : Tok} {news : Led} {Q : Value → Shared → Prop} (hh : A.handled = none) (F : Fr h₀ L s.heap m) (N : News h₀ L s.heap news)
    (h : ∀ h' tk v, Fr h₀ L h' m → News h₀ L h' news → Q (.int (min a b) v) { s with heap := h', toks := tk }) : wpAny (model prog w) A (call (.builtin "min") [.int a t, .int b u]) Q E s := by
  refine min_two_ints hh fun h' tk hk => ?_
  have key := fun v => h h' tk v (F.keeps hk) (fun p hp => ⟨hk _ _ (N p hp).1, (N p hp).2⟩)
  by_cases h1 : b < a <;> simp only [h1, if_true, if_false]
  · rw [show min a b = b by (walk_at "O")] at key; exact key _
  · rw [show min a b = a by (walk_at "O")] at key; exact key _
theorem max2_K {a b : Int} {t u : Tok} {news : Led} {Q : Value → Shared → Prop} (hh : A.handled = none) (F : Fr h₀ L s.heap m) (N : News h₀ L s.heap news)
    (h : ∀ h' tk v, Fr h₀ L h' m → News h₀ L h' news → Q (.int (max a b) v) { s with heap := h', toks := tk }) : wpAny (model prog w) A (call (.builtin "max") [.int a t, .int b u]) Q E s := by
  refine max_two_ints hh fun h' tk hk => ?_
  have key := fun v => h h' tk v (F.keeps hk) (fun p hp => ⟨hk _ _ (N p hp).1, (N p hp).2⟩)
  by_cases h1 : b > a <;> simp only [h1, if_true, if_false]
  · rw [show max a b = b by (walk_at "O")] at key; exact key _
  · rw [show max a b = a by (walk_at "O")] at key; exact key _
end
theorem mat_hd {a b : Addr × Obj} {rows rows2 : List Row} {n : Led} : ∀ p ∈ a :: b :: (matLed rows2 ++ n), p.1 ∈ (a :: b :: (matLed rows ++ n)).map (·.1) ∨ isIt p.2 = false := fun p hp => by
  simp only [List.mem_cons, List.mem_append, List.map_cons, List.map_append] at hp ⊢
  rcases hp with rfl | rfl | hp | hp
  · exact .inl (.inl rfl)
  · exact .inl (.inr (.inl rfl))
  · refine .inr ?_
    obtain ⟨q, _, rfl⟩ := List.mem_map.mp hp
    rfl
  · exact .inl (.inr (.inr (.inr (List.mem_map_of_mem hp))))
theorem RowsOk.mono {rs : List Value} {l l' : Led} {rows : List Row} {M : List (List Int)} (h : RowsOk rs l rows M) (hs : ∀ p ∈ l', p ∈ l) : RowsOk rs l' rows M := ⟨h.ok, h.refs, fun p hp => h.off p (hs p hp)⟩
theorem RowsOk.more {rs : List Value} {a b p : Addr × Obj} {n : Led} {rows : List Row} {M : List (List Int)} (h : RowsOk rs (a :: b :: n) rows M) (hp : ∀ r ∈ rows, r.1 ≠ p.1) : RowsOk rs (a :: b :: (n ++ [p])) rows M := ⟨h.ok, h.refs, fun q hq r hr => by
  simp only [List.mem_cons, List.mem_append, List.not_mem_nil, or_false] at hq
  rcases hq with rfl | rfl | hq | rfl
  · exact h.off _ (.head _) r hr
  · exact h.off _ (.tail _ (.head _)) r hr
  · exact h.off _ (.tail _ (.tail _ hq)) r hr
  · exact (hp r hr).symm⟩
theorem RowsOk.less {rs : List Value} {a b p : Addr × Obj} {n : Led} {rows : List Row} {M : List (List Int)} (h : RowsOk rs (a :: b :: (n ++ [p])) rows M) : RowsOk rs (a :: b :: n) rows M := h.mono fun q hq => by
  simp only [List.mem_cons, List.mem_append] at hq ⊢
  rcases hq with rfl | rfl | hq
  · exact .inl rfl
  · exact .inr (.inl rfl)
  · exact .inr (.inr (.inl hq))
theorem RowsOk.off3 {rs : List Value} {a b p : Addr × Obj} {n : Led} {rows : List Row} {M : List (List Int)} (h : RowsOk rs (a :: b :: n) rows M) (hp : ∀ r ∈ rows, r.1 ≠ p.1) : ∀ q ∈ a :: b :: (n ++ [p]), q ∈ a :: b :: n ∨ ∀ r ∈ rows, q.1 ≠ r.1 := fun q hq => by
  simp only [List.mem_cons, List.mem_append, List.not_mem_nil, or_false] at hq ⊢
  rcases hq with rfl | rfl | hq | rfl
  · exact .inl (.inl rfl)
  · exact .inl (.inr (.inl rfl))
  · exact .inl (.inr (.inr hq))
  · exact .inr fun r hr => (hp r hr).symm
theorem row_ne {rows : List Row} {l : Led} {I : Addr} {a b : Addr × Obj} (h : ∀ p ∈ a :: b :: (matLed rows ++ l), p.1 ≠ I) : ∀ r ∈ rows, r.1 ≠ I := fun r hr => h _ (.tail _ (.tail _ (List.mem_append_left _ (led_mem hr))))
theorem fold_succ {α : Type} (f : α → Nat → α) (z : α) (i : Nat) : (List.range (i + 1)).foldl f z = f ((List.range i).foldl f z) i := by
  rw [List.range_succ, List.foldl_append]; rfl
theorem get2_set2 {rs : List Value} {l : Led} {rows : List Row} {M : List (List Int)} (h : RowsOk rs l rows M) {i j : Nat} (hi : i < 5) (hj : j < 5) (x : Int) : get2 (set2 M i j x) i j = x := by
  unfold get2 set2
  rw [getD_set _ _ _ _ _ (by rw [h.ok.l2]; exact hi), if_pos rfl, getD_set _ _ _ _ _ (by rw [(h.ok.rowI i hi).2]; exact hj), if_pos rfl]
end Uc
end
section
namespace Uc
noncomputable def setSym (M : List (List Int)) (i j : Nat) (x : Int) : List (List Int) := set2 (set2 M i j x) j i x
noncomputable def fillRow (nm : List (List Nat)) (M : List (List Int)) (i : Nat) : List (List Int) := (List.range i).foldl (fun M j => setSym M i j (farOf (nm.getD i []) (nm.getD j []))) M
noncomputable def fill (nm : List (List Nat)) (M : List (List Int)) : List (List Int) := (List.range 5).foldl (fillRow nm) M
noncomputable def relaxRow (m : Nat) (M : List (List Int)) (i : Nat) : List (List Int) := (List.range i).foldl (fun M j => setSym M i j (min (get2 M i j) (max (get2 M i m) (get2 M m j)))) M
noncomputable def relax (M : List (List Int)) (m : Nat) : List (List Int) := (List.range 5).foldl (relaxRow m) M
noncomputable def dearest (nm : List (List Nat)) : List (List Int) := (List.range 5).foldl relax (fill nm (List.replicate 5 (List.replicate 5 0)))
noncomputable def mkS (l : List Nat) : Str := ⟨l.toArray⟩
theorem mkS_at (nm : List (List Nat)) (i : Nat) : (nm.map mkS).getD i Str.empty = ⟨(nm.getD i []).toArray⟩ := by
  rw [List.getD_eq_getElem?_getD, List.getD_eq_getElem?_getD, List.getElem?_map]
  cases nm[i]? <;> rfl
theorem len_at {nm : List (List Nat)} (hl : ∀ x ∈ nm, x.length ≤ 3) (i : Nat) : (nm.getD i []).length ≤ 3 := by
  rw [List.getD_eq_getElem?_getD]
  by_cases h : i < nm.length
  · rw [List.getElem?_eq_getElem h]; exact hl _ (List.getElem_mem h)
  · rw [List.getElem?_eq_none (by omega)]; exact Nat.zero_le _
end Uc
end
section
namespace Uc
open PyProof.Rows.LCg
noncomputable def TurnC (h₀ : Heap) (L : Addr) (m : Str → Option Value) (s : Shared) (I : Addr) (oI : Obj) (C : Addr) (oC : Obj) (D : Addr) (oD : Obj) (S : List (Addr × Obj) → Prop) (s₂ : Shared) : Prop :=
  ∃ h' tk news', s₂ = { s with heap := h', toks := tk } ∧ Fr h₀ L h' m ∧ News h₀ L h' ((I, oI) :: (C, oC) :: (D, oD) :: news') ∧ Off3 I C D news' ∧ S news'
theorem TurnC.mk {h₀ : Heap} {L I C D : Addr} {m : Str → Option Value} {s : Shared} {oI oC oD : Obj} {S : List (Addr × Obj) → Prop} {h' : Heap} {tk : Nat} {all : List (Addr × Obj)} (news' : List (Addr × Obj))
    (F : Fr h₀ L h' m) (N : News h₀ L h' all) (sub : ∀ p ∈ (I, oI) :: (C, oC) :: (D, oD) :: news', p ∈ all) (off : Off3 I C D news') (hS : S news') : TurnC h₀ L m s I oI C oC D oD S { s with heap := h', toks := tk } :=
  ⟨h', tk, news', rfl, F, fun p hp => N p (sub p hp), off, hS⟩
section
variable {prog : Program} {w : World} {A : Around} {E : Value → Shared → Prop} {s : Shared} {h₀ : Heap} {L : Addr} {m : Str → Option Value} {env : Env}
noncomputable def TurnsC (prog : Program) (w : World) (A : Around) (h₀ : Heap) (L : Addr) (m : Str → Option Value) (env : Env) (elt : Expr) (ifs : List Expr) (x : Str) (scope : Scope) (cl : List (Str × Addr)) (n : Nat) (P : Nat → Value → Prop) (S : List (Addr × Obj) → Prop) (R : Nat → List Value → List (Addr × Obj) → Prop) (s : Shared) : Prop :=
  ∀ i v ys news I oI C oC D m₂ h tk (E' : Value → Shared → Prop), i < n → P i v → R i ys news → S news → NsObj oC m₂ → m₂ x = some v → Fr h₀ L h m → News h₀ L h ((I, oI) :: (C, oC) :: (D, lst ys) :: news) → Off3 I C D news → ((@Ne Nat I C) ∧ (@Ne Nat I D) ∧ (@Ne Nat C D)) →
    wpAny (model prog w) A (forIn ifs true fun c r => if r = true then do let ok ← isTrue c (compEnvC scope cl C env) (eval c (compEnvC scope cl C env)); pure (ForInStep.yield ok) else pure (ForInStep.yield r)) (fun ok s₃ =>
      if ok = true then wpAny (model prog w) A (eval elt (compEnvC scope cl C env)) (fun y s₄ => TurnC h₀ L m { s with heap := h, toks := tk } I oI C oC D (lst ys) (fun nw => S nw ∧ R (i + 1) (ys ++ [y]) nw) s₄) E' s₃
      else TurnC h₀ L m { s with heap := h, toks := tk } I oI C oC D (lst ys) (fun nw => S nw ∧ R (i + 1) ys nw) s₃) E' { s with heap := h, toks := tk }
theorem comp_block {elt iter : Expr} {ifs : List Expr} {x : Str} {px : Pos} {scope : Scope} {cl : List (Str × Addr)} {pos : Pos} {s₂ : Shared} {I : Addr} {fp : List Addr} {n : Nat} {P : Nat → Value → Prop} {St : Nat → Heap → Prop} {S : List (Addr × Obj) → Prop} {news : List (Addr × Obj)}
    {R : Nat → List Value → List (Addr × Obj) → Prop} {RR : Value → Addr → Result → Shared → Prop}
    (W : Walks prog w A I fp [I] n P St) (hsz : n ≤ sizeLine) (hIo : ∀ i h, St i h → ∃ o, h.get? I = some o)
    (hSt : ∀ i h h' o nw, St i h → h.get? I = some o → h'.get? I = some o → (∀ b o, h₀.get? b = some o → h'.get? b = some o) → News h₀ L h' nw → S nw → St i h')
    (hcell : ∀ y ∈ scope.names, y.2 ≠ .cell) (hkind : scope.kind = .function) (hx : scope.names.lookup x = some .local) (hst : St 0 s₂.heap) (hfp : ∀ b ∈ fp, b < s₂.heap.objs.size)
    (F : Fr h₀ L s₂.heap m) (N : News h₀ L s₂.heap news) (hIL : L ≠ I) (hI₀ : h₀.get? I = none) (off : ∀ p ∈ news, p.1 ≠ I) (hS : S news) (hR : R 0 [] news)
    (T : TurnsC prog w A h₀ L m env elt ifs x scope cl n P S R s₂)
    (hRR : ∀ D C h tk m' ys news', Fr h₀ L h m → News h₀ L h ((D, lst ys) :: news') → Off1 D news' → h.Ns C m' → h₀.get? C = none → h₀.get? D = none → C ≠ L → D ≠ L → C ≠ D → (∀ p ∈ news', p.1 ≠ C) → R n ys news' → RR (.ref D) C (.ok .next) { s₂ with heap := h, toks := tk }) :
    wpAny (model prog w) A (newList []) (fun acc s₃ => wpAny (model prog w) A (newFunctionEnv scope env.globals cl [] env.qual none .none (some env)) (fun cenv s₄ =>
      codeAny (model prog w) A (.compStart (.ListComp elt [⟨.Name x px, iter, ifs, 0⟩] scope pos) 0 (.ref I) acc { cenv with scope := relabel scope env }) (RR acc cenv.locals) s₄) E s₃) E s₂ := by
  refine wpAny_newObj_type (wpAny_newFunctionEnv hcell (by intro y hy; simp at hy) (fun h₁ hns₁ hsb₁ => ?_) hkind)
  dsimp only at hns₁ hsb₁ ⊢
  generalize hH2 : s₂.heap.push { cls := .type "list", dict := none, data := .seq ([] : List Value).toArray } = H2 at hns₁ hsb₁ ⊢
  have hC : H2.objs.size = s₂.heap.objs.size + 1 := by rw [← hH2, Heap.size_push]
  have hDC : s₂.heap.objs.size ≠ H2.objs.size := by rw [hC]; exact Nat.ne_of_lt (Nat.lt_succ_self _)
  have below : ∀ b, b < s₂.heap.objs.size → b ≠ H2.objs.size ∧ b ≠ s₂.heap.objs.size := fun b hb => ⟨by rw [hC]; exact Nat.ne_of_lt (Nat.lt_succ_of_lt hb), Nat.ne_of_lt hb⟩
  have hDf : s₂.heap.objs.size ∉ fp := fun hm => Nat.lt_irrefl _ (hfp _ hm)
  have hCf : H2.objs.size ∉ fp := fun hm => by have := hfp _ hm; rw [hC] at this; exact Nat.lt_irrefl _ (Nat.lt_of_succ_lt this)
  have hIlt : I < s₂.heap.objs.size := hfp I (W.sub I (List.mem_singleton.mpr rfl))
  have old : ∀ b o, s₂.heap.get? b = some o → h₁.get? b = some o := fun b o e => hsb₁.extBut b o (below b (Heap.lt_size e)).1 (Heap.get?_push_of_some _ (hH2 ▸ Heap.get?_push_of_some _ e))
  have hacc : h₁.get? s₂.heap.objs.size = some (lst []) := hsb₁.extBut _ _ hDC (Heap.get?_push_of_some _ (hH2 ▸ Heap.get?_push_size _ rfl))
  have hst₁ : St 0 h₁ := W.frame _ _ _ hst fun b _ o e => old b o e
  have fresh : ∀ a, s₂.heap.objs.size ≤ a → s₂.heap.get? a = none := fun a ha => by
    cases e : s₂.heap.get? a with
    | none => rfl
    | some o' => exact absurd (Heap.lt_size e) (Nat.not_lt.mpr ha)
  have fresh₀ : ∀ a, s₂.heap.objs.size ≤ a → h₀.get? a = none := fun a ha => by
    cases e : h₀.get? a with
    | none => rfl
    | some o' => have := F.keep a o' e; rw [fresh a ha] at this; cases this
  have hD₀ : h₀.get? s₂.heap.objs.size = none := fresh₀ _ (Nat.le_refl _)
  have hC₀ : h₀.get? H2.objs.size = none := fresh₀ _ (by rw [hC]; exact Nat.le_succ _)
  have hLlt : L < s₂.heap.objs.size := F.ns.lt
  have hDL : s₂.heap.objs.size ≠ L := Ne.symm (below L hLlt).2
  have hCL : H2.objs.size ≠ L := Ne.symm (below L hLlt).1
  have hCI : I ≠ H2.objs.size := (below I hIlt).1
  have hDI : I ≠ s₂.heap.objs.size := (below I hIlt).2
  have off₀ : Off3 I H2.objs.size s₂.heap.objs.size news := Off3.of fun p hp => ⟨off p hp, (below _ (Heap.lt_size (N p hp).1)).1, (below _ (Heap.lt_size (N p hp).1)).2⟩
  have loop : ∀ s₃ : Shared, s₃ = { s₂ with heap := h₁, toks := s₂.toks + ([] : List (Str × Value)).length } →
      codeAny (model prog w) A (.compLoop (.ListComp elt [⟨.Name x px, iter, ifs, 0⟩] scope pos) 0 (.ref I) (.ref s₂.heap.objs.size) (compEnvC scope cl H2.objs.size env))
        (RR (.ref s₂.heap.objs.size) H2.objs.size) s₃ := by
    rintro s₃ rfl
    refine codeAny_compLoop_tests
      (fun k s' => ∃ h' tk i ys m' news', s' = { s₂ with heap := h', toks := tk } ∧ i ≤ n ∧ k = n + 1 - i ∧ ys.length ≤ i ∧ St i h' ∧ Fr h₀ L h' m ∧ h'.Ns H2.objs.size m' ∧ News h₀ L h' ((s₂.heap.objs.size, lst ys) :: news') ∧
        Off3 I H2.objs.size s₂.heap.objs.size news' ∧ S news' ∧ R i ys news') ?_ (n + 1)
      (Uc.ei6 h₁ _ 0 ([]) _ news ⟨rfl, Nat.zero_le _, rfl, Nat.le_refl _, hst₁, F.keeps old, hns₁, fun p hp => ?_, off₀, hS, hR⟩)
    · intro k s' q0; (refine Uc.ex6 q0 fun h' tk i ys m' news' => Uc.an11 fun e1q hi e2q hyl hst' F' hn' N' off' hS' R' => ?_; clear q0; subst e1q; subst e2q)
      by_cases hlt : i < n
      · refine W.item i _ _ _ hlt hst' fun v h₂ tk₂ hPv hst₂ hk₂ => ?_
        refine wpAny_assign_Name (wpAny_storeName_local (lookup_relabel_local hx) (hn'.at' fun o e => hk₂ _ o (by simpa using Ne.symm hCI) e) (fun h₃ hn₃ hs₃ => ?_) (by simp [compEnvC, relabel, hkind]))
        have hst₃ : St (i + 1) h₃ := W.frame _ _ _ hst₂ fun b hb o e => hs₃.extBut b o (fun q => hCf (by have q' : b = H2.objs.size := q; rw [← q']; exact hb)) e
        (refine Uc.ex1 (hIo _ _ hst₃) fun oI heI => ?_)
        (refine Uc.ex1 (ns_obj hn₃) fun oC => Uc.an2 fun heC hoC => ?_)
        have F₃ : Fr h₀ L h₃ m := (fr_but F' hk₂ hIL hI₀).change hs₃ hCL hC₀
        have off3 := off'.mem
        have N₂ : News h₀ L h₂ ((s₂.heap.objs.size, lst ys) :: news') := news_but N' hk₂ fun p hp => by
          rcases List.mem_cons.mp hp with rfl | hp
          · exact Ne.symm hDI
          · exact (off3 p hp).1
        have N₃ : News h₀ L h₃ ((I, oI) :: (H2.objs.size, oC) :: (s₂.heap.objs.size, lst ys) :: news') := fun p hp => by
          rcases List.mem_cons.mp hp with rfl | hp
          · exact ⟨heI, Ne.symm hIL, hI₀⟩
          · rcases List.mem_cons.mp hp with rfl | hp
            · exact ⟨heC, hCL, hC₀⟩
            · have z := N₂ p hp
              refine ⟨hs₃.extBut _ _ ?_ z.1, z.2⟩
              rcases List.mem_cons.mp hp with rfl | hp
              · exact hDC
              · exact (off3 p hp).2.1
        refine wpAny_mono (T i v ys news' I oI H2.objs.size oC s₂.heap.objs.size _ h₃ _ _ hlt hPv R' hS' hoC (by simp) F₃ N₃ off' ⟨hCI, hDI, Ne.symm hDC⟩) (fun ok s₃ q => ?_) fun _ _ e => e
        have facts : ∀ {h₄ : Heap} {news₄ : List (Addr × Obj)} {S' : List (Addr × Obj) → Prop}, Fr h₀ L h₄ m → News h₀ L h₄ ((I, oI) :: (H2.objs.size, oC) :: (s₂.heap.objs.size, lst ys) :: news₄) → S news₄ →
            News h₀ L h₄ news₄ ∧ St (i + 1) h₄ ∧ h₄.get? s₂.heap.objs.size = some (lst ys) ∧ h₄.get? H2.objs.size = some oC := fun {h₄ news₄ S'} F₄ N₄ hS₄ => by
          have zI := (N₄ (I, oI) List.mem_cons_self).1
          have zC := (N₄ (H2.objs.size, oC) (List.mem_cons_of_mem _ List.mem_cons_self)).1
          have zD := (N₄ (s₂.heap.objs.size, lst ys) (List.mem_cons_of_mem _ (List.mem_cons_of_mem _ List.mem_cons_self))).1
          have N₄' : News h₀ L h₄ news₄ := fun p hp => N₄ p (List.mem_cons_of_mem _ (List.mem_cons_of_mem _ (List.mem_cons_of_mem _ hp)))
          exact ⟨N₄', hSt _ _ _ _ _ hst₃ heI zI F₄.keep N₄' hS₄, zD, zC⟩
        cases ok with
        | false =>
          simp only [Bool.false_eq_true, if_false] at q ⊢
          (refine Uc.ex3 q fun h₄ tk₄ news₄ => Uc.an6 fun e1q F₄ N₄ off₄ hS₄ R₄ => ?_; clear q; subst e1q)
          (refine Uc.ah4 (facts (S' := S) F₄ N₄ hS₄) fun N₄' hst₄ zD zC => ?_)
          exact ⟨n + 1 - (i + 1), Nat.sub_lt_sub_left (Nat.lt_succ_of_lt hlt) (Nat.lt_succ_self i), Uc.ei6 h₄ tk₄ (i + 1) ys _ news₄ ⟨rfl, hlt, rfl, Nat.le_succ_of_le hyl, hst₄, F₄, hoC.ns zC, fun p hp => N₄ p (List.mem_cons_of_mem _ (List.mem_cons_of_mem _ hp)), off₄, hS₄, R₄⟩⟩
        | true =>
          simp only [if_true] at q ⊢
          refine wpAny_mono q (fun y s₄ q => ?_) fun _ _ e => e
          (refine Uc.ex3 q fun h₄ tk₄ news₄ => Uc.an6 fun e1q F₄ N₄ off₄ hS₄ R₄ => ?_; clear q; subst e1q)
          (refine Uc.ah4 (facts (S' := S) F₄ N₄ hS₄) fun N₄' hst₄ zD zC => ?_)
          refine append_at (hsz := by show ys.toArray.size ≤ sizeLine; rw [List.size_toArray]; exact Nat.le_trans hyl (Nat.le_trans hi hsz)) zD fun h₅ hs₅ hD₅ => ?_
          have off4 := off₄.mem
          refine ⟨n + 1 - (i + 1), Nat.sub_lt_sub_left (Nat.lt_succ_of_lt hlt) (Nat.lt_succ_self i), Uc.ei6 h₅ tk₄ (i + 1) (ys ++ [y]) _ news₄ ⟨rfl, hlt, rfl, by rw [List.length_append, List.length_singleton]; omega, W.frame _ _ _ hst₄ fun b hb o e => hs₅.extBut b o (fun q => hDf (q ▸ hb)) e, F₄.change hs₅ hDL hD₀, (hoC.ns zC).sameBut hs₅ (Ne.symm hDC), fun p hp => ?_, off₄, hS₄, R₄⟩⟩
          rcases List.mem_cons.mp hp with rfl | hp
          · exact ⟨hD₅.trans (congrArg some (lst_snoc ys y)), hDL, hD₀⟩
          · exact ⟨hs₅.extBut _ _ (off4 p hp).2.2 (N₄' p hp).1, (N₄' p hp).2⟩
      · obtain rfl : i = n := Nat.le_antisymm hi (Nat.not_lt.mp hlt)
        refine W.done _ _ _ hst' fun h₂ tk₂ hk₂ => ?_
        have off3 := off'.mem
        exact hRR _ _ h₂ tk₂ _ ys news' (fr_but F' hk₂ hIL hI₀) (news_but N' hk₂ fun p hp => by
          rcases List.mem_cons.mp hp with rfl | hp
          · exact Ne.symm hDI
          · exact (off3 p hp).1) off'.one (hn'.at' fun o e => hk₂ _ o (by simpa using Ne.symm hCI) e) hC₀ hD₀ hCL hDL (Ne.symm hDC) (fun p hp => (off3 p hp).2.1) R'
    · rcases List.mem_cons.mp hp with rfl | hp
      · exact ⟨hacc, hDL, hD₀⟩
      · exact ⟨old _ _ (N p hp).1, (N p hp).2⟩
  exact codeAny_compStart_list (loop _ rfl) (W.self 0 _ _ _ hst₁ (loop _ rfl))
noncomputable def CompS (prog : Program) (w : World) (A : Around) (env : Env) (elt : Expr) (ifs : List Expr) (x : Str) (scope : Scope) (cl : List (Str × Addr)) (Q : Value → Shared → Prop) (xv : Value) (s₁ : Shared) : Prop :=
  ∃ (h₀ : Heap) (L : Addr) (m : Str → Option Value) (y : Str) (t : Tok) (news : List (Addr × Obj)) (R : Nat → List Value → List (Addr × Obj) → Prop), xv = .str y t ∧ A.handled = none ∧ Fr h₀ L s₁.heap m ∧ News h₀ L s₁.heap news ∧ y.length ≤ 10000 ∧ R 0 [] news ∧
    (∀ g, TurnsC prog w A h₀ L m env elt ifs x scope cl y.length (SignAt y) (fun _ => True) R { s₁ with heap := g }) ∧
    ∀ D h tk ys news', R y.length ys news' → Fr h₀ L h m → News h₀ L h ((D, lst ys) :: news') → Off1 D news' → Q (.ref D) { s₁ with heap := h, toks := tk }
theorem comp_str {elt iter : Expr} {ifs : List Expr} {x : Str} {px : Pos} {scope : Scope} {cl : List (Str × Addr)} {pos : Pos} {Q : Value → Shared → Prop}
    (hclos : closureFor scope env = pure cl) (hcell : ∀ y ∈ scope.names, y.2 ≠ .cell) (hkind : scope.kind = .function)
    (hnames : ∀ y ∈ scope.names, y.2 = .local → scope.names.lookup y.1 = some .local) (hx : scope.names.lookup x = some .local)
    (h : wpAny (model prog w) A (eval iter env) (CompS prog w A env elt ifs x scope cl Q) E s)
    (hs : ∀ x, foldedSetIterable iter env x = pure x := by intro _; rfl) :
    wpAny (model prog w) A (eval (.ListComp elt [⟨.Name x px, iter, ifs, 0⟩] scope pos) env) Q E s := by
  rw [eval_ListComp]
  refine wpAny_comprehension_free (use := none) rfl hs hclos hkind hnames (wpAny_mono h (fun xv s₁ h₁ => ?_) fun _ _ e => e)
  (refine Uc.ex7 h₁ fun h₀ L m y t news R => Uc.an8 fun e1q hh F N hsz hR T fin => ?_; clear h₁; subst e1q)
  cases ha : y.cps.all (· < 128)
  · refine wpAny_pyIter_wide ha ?_
    refine comp_block (S := fun _ => True) (Walks.strWide hh s₁.heap.objs.size y t) (Nat.le_trans hsz (by decide)) (fun i h st => let ⟨o, h1, _⟩ := st; ⟨o, h1⟩) (fun i h h' o nw st e1 e2 _ _ _ => by
        obtain ⟨o', g1, g2⟩ := st
        rw [e1] at g1; cases g1
        exact ⟨o, e2, g2⟩) hcell hkind hx ⟨_, Heap.get?_push_size _ rfl, rfl, rfl⟩ (fun b hb => by
        rw [List.mem_singleton.mp hb]
        show s₁.heap.objs.size < (s₁.heap.push _).objs.size
        rw [Heap.size_push]; exact Nat.lt_succ_self _)
      (F.push _) (fun p hp => ⟨Heap.get?_push_of_some _ (N p hp).1, (N p hp).2⟩) (Nat.ne_of_lt F.ns.lt) (next_is_new F) (fun p hp => Nat.ne_of_lt (Heap.lt_size (N p hp).1)) trivial hR (T _) ?_
    intro D C h tk m' ys news' F' N' o1 hn hC₀ hD₀ hCL hDL hCD offC r
    refine ⟨m', hn, fun h'' hs'' => fin D h'' tk ys news' r (F'.change hs'' hCL hC₀) (fun p hp => ?_) o1⟩
    refine ⟨hs''.extBut _ _ ?_ (N' p hp).1, (N' p hp).2⟩
    rcases List.mem_cons.mp hp with rfl | hp
    · exact Ne.symm hCD
    · exact offC p hp
  · refine wpAny_pyIter_ascii ha ?_
    refine comp_block (S := fun _ => True) (Walks.strAscii hh s₁.heap.objs.size y t) (Nat.le_trans hsz (by decide)) (fun i h st => let ⟨o, h1, _⟩ := st; ⟨o, h1⟩) (fun i h h' o nw st e1 e2 _ _ _ => by
        obtain ⟨o', g1, g2⟩ := st
        rw [e1] at g1; cases g1
        exact ⟨o, e2, g2⟩) hcell hkind hx ⟨_, Heap.get?_push_size _ rfl, rfl, rfl⟩ (fun b hb => by
        rw [List.mem_singleton.mp hb]
        show s₁.heap.objs.size < (s₁.heap.push _).objs.size
        rw [Heap.size_push]; exact Nat.lt_succ_self _)
      (F.push _) (fun p hp => ⟨Heap.get?_push_of_some _ (N p hp).1, (N p hp).2⟩) (Nat.ne_of_lt F.ns.lt) (next_is_new F) (fun p hp => Nat.ne_of_lt (Heap.lt_size (N p hp).1)) trivial hR (T _) ?_
    intro D C h tk m' ys news' F' N' o1 hn hC₀ hD₀ hCL hDL hCD offC r
    refine ⟨m', hn, fun h'' hs'' => fin D h'' tk ys news' r (F'.change hs'' hCL hC₀) (fun p hp => ?_) o1⟩
    refine ⟨hs''.extBut _ _ ?_ (N' p hp).1, (N' p hp).2⟩
    rcases List.mem_cons.mp hp with rfl | hp
    · exact Ne.symm hCD
    · exact offC p hp
noncomputable def CompR (prog : Program) (w : World) (A : Around) (env : Env) (elt : Expr) (ifs : List Expr) (x : Str) (scope : Scope) (cl : List (Str × Addr)) (Q : Value → Shared → Prop) (xv : Value) (s₁ : Shared) : Prop :=
  ∃ (h₀ : Heap) (L : Addr) (m : Str → Option Value) (r : Addr) (b : Int) (t u v : Tok) (n : Nat) (news : List (Addr × Obj)) (R : Nat → List Value → List (Addr × Obj) → Prop), xv = .ref r ∧ A.handled = none ∧ Fr h₀ L s₁.heap m ∧ News h₀ L s₁.heap news ∧ IsRange s₁.heap r 0 b 1 t u v ∧ b = (n : Int) ∧ n ≤ 10000 ∧ R 0 [] news ∧
    (∀ g, TurnsC prog w A h₀ L m env elt ifs x scope cl n (fun i v => ∃ t, v = .int (i : Int) t) (fun _ => True) R { s₁ with heap := g }) ∧
    ∀ D h tk ys news', R n ys news' → Fr h₀ L h m → News h₀ L h ((D, lst ys) :: news') → Off1 D news' → Q (.ref D) { s₁ with heap := h, toks := tk }
theorem comp_range {elt iter : Expr} {ifs : List Expr} {x : Str} {px : Pos} {scope : Scope} {cl : List (Str × Addr)} {pos : Pos} {Q : Value → Shared → Prop}
    (hclos : closureFor scope env = pure cl) (hcell : ∀ y ∈ scope.names, y.2 ≠ .cell) (hkind : scope.kind = .function)
    (hnames : ∀ y ∈ scope.names, y.2 = .local → scope.names.lookup y.1 = some .local) (hx : scope.names.lookup x = some .local)
    (h : wpAny (model prog w) A (eval iter env) (CompR prog w A env elt ifs x scope cl Q) E s)
    (hs : ∀ x, foldedSetIterable iter env x = pure x := by intro _; rfl) :
    wpAny (model prog w) A (eval (.ListComp elt [⟨.Name x px, iter, ifs, 0⟩] scope pos) env) Q E s := by
  rw [eval_ListComp]
  refine wpAny_comprehension_free (use := none) rfl hs hclos hkind hnames (wpAny_mono h (fun xv s₁ h₁ => ?_) fun _ _ e => e)
  (refine Uc.ex9 h₁ fun h₀ L m r b t u v n => Uc.xe2 fun news R => Uc.an10 fun e1q hh F N hr hb hsz hR T fin => ?_; clear h₁; subst e1q)
  have hsm : Builtin.Range.small 0 b 1 = true := rsmall (by omega) (by omega) (by omega) (by omega) (by omega) (by omega)
  have hn : Builtin.Range.rangeSize 0 b 1 = (n : Int) := rsize1 hb
  refine wpAny_pyIter_range hr hsm ?_
  have W : Walks prog w A s₁.heap.objs.size [s₁.heap.objs.size] [s₁.heap.objs.size] n (fun i v => ∃ t, v = .int (i : Int) t) (fun i h => IsRangeIter h s₁.heap.objs.size ((i : Nat) : Int) ((n : Int) - (i : Nat)) 1) := by
    have W0 := range_walks (prog := prog) (w := w) (A := A) (I := s₁.heap.objs.size) hh 0 n
    simpa using W0
  refine comp_block (S := fun _ => True) W (Nat.le_trans hsz (by decide)) (fun i h st => ⟨_, st⟩) (fun i h h' o nw st e1 e2 _ _ _ => by
      have st' : h.get? s₁.heap.objs.size = some _ := st
      rw [e1] at st'
      show h'.get? s₁.heap.objs.size = some _
      rw [e2]; exact st') hcell hkind hx (by show IsRangeIter _ _ _ _ _; rw [hn]; simpa using Heap.get?_push_size _ rfl) (fun b hb => by
      rw [List.mem_singleton.mp hb]
      show s₁.heap.objs.size < (s₁.heap.push _).objs.size
      rw [Heap.size_push]; exact Nat.lt_succ_self _)
    (F.push _) (fun p hp => ⟨Heap.get?_push_of_some _ (N p hp).1, (N p hp).2⟩) (Nat.ne_of_lt F.ns.lt) (next_is_new F) (fun p hp => Nat.ne_of_lt (Heap.lt_size (N p hp).1)) trivial hR (T _) ?_
  intro D C h tk m' ys news' F' N' o1 hn hC₀ hD₀ hCL hDL hCD offC r
  refine ⟨m', hn, fun h'' hs'' => fin D h'' tk ys news' r (F'.change hs'' hCL hC₀) (fun p hp => ?_) o1⟩
  refine ⟨hs''.extBut _ _ ?_ (N' p hp).1, (N' p hp).2⟩
  rcases List.mem_cons.mp hp with rfl | hp
  · exact Ne.symm hCD
  · exact offC p hp
noncomputable def CompL (prog : Program) (w : World) (A : Around) (env : Env) (elt : Expr) (ifs : List Expr) (x : Str) (scope : Scope) (cl : List (Str × Addr)) (Q : Value → Shared → Prop) (xv : Value) (s₁ : Shared) : Prop :=
  ∃ (h₀ : Heap) (L : Addr) (m : Str → Option Value) (ax : Addr) (its : List Value) (k : Nat) (news : List (Addr × Obj)) (R : Nat → List Value → List (Addr × Obj) → Prop), xv = .ref ax ∧ A.handled = none ∧ Fr h₀ L s₁.heap m ∧ News h₀ L s₁.heap news ∧ (ax, listOf its.toArray k) ∈ news ∧ its.length ≤ 10000 ∧ R 0 [] news ∧
    (∀ g, TurnsC prog w A h₀ L m env elt ifs x scope cl its.length (fun i v => its[i]? = some v) (fun nw => (ax, listOf its.toArray k) ∈ nw) R { s₁ with heap := g }) ∧
    ∀ D h tk ys news', R its.length ys news' → Fr h₀ L h m → News h₀ L h ((D, lst ys) :: news') → Off1 D news' → Q (.ref D) { s₁ with heap := h, toks := tk }
noncomputable def CompRA (prog : Program) (w : World) (A : Around) (env : Env) (elt : Expr) (ifs : List Expr) (x : Str) (scope : Scope) (cl : List (Str × Addr)) (y : Str) (Q : Flow → Shared → Prop) (xv : Value) (s₁ : Shared) : Prop :=
  ∃ (h₀ : Heap) (m : Str → Option Value) (r : Addr) (b : Int) (t u v : Tok) (n : Nat) (news : List (Addr × Obj)) (R : Nat → List Value → List (Addr × Obj) → Prop), xv = .ref r ∧ A.handled = none ∧ Fr h₀ env.locals s₁.heap m ∧ News h₀ env.locals s₁.heap news ∧ IsRange s₁.heap r 0 b 1 t u v ∧ b = (n : Int) ∧ n ≤ 10000 ∧ R 0 [] news ∧
    (∀ g, TurnsC prog w A h₀ env.locals m env elt ifs x scope cl n (fun i v => ∃ t, v = .int (i : Int) t) (fun _ => True) R { s₁ with heap := g }) ∧
    ∀ D h tk ys news', R n ys news' → Fr h₀ env.locals h (fun z => if z = y then some (.ref D) else m z) → News h₀ env.locals h ((D, lst ys) :: news') → Off1 D news' → Q .next { s₁ with heap := h, toks := tk }
noncomputable def CompLA (prog : Program) (w : World) (A : Around) (env : Env) (elt : Expr) (ifs : List Expr) (x : Str) (scope : Scope) (cl : List (Str × Addr)) (y : Str) (Q : Flow → Shared → Prop) (xv : Value) (s₁ : Shared) : Prop :=
  ∃ (h₀ : Heap) (m : Str → Option Value) (ax : Addr) (its : List Value) (k : Nat) (news : List (Addr × Obj)) (R : Nat → List Value → List (Addr × Obj) → Prop), xv = .ref ax ∧ A.handled = none ∧ Fr h₀ env.locals s₁.heap m ∧ News h₀ env.locals s₁.heap news ∧ (ax, listOf its.toArray k) ∈ news ∧ its.length ≤ 10000 ∧ R 0 [] news ∧
    (∀ g, TurnsC prog w A h₀ env.locals m env elt ifs x scope cl its.length (fun i v => its[i]? = some v) (fun nw => (ax, listOf its.toArray k) ∈ nw) R { s₁ with heap := g }) ∧
    ∀ D h tk ys news', R its.length ys news' → Fr h₀ env.locals h (fun z => if z = y then some (.ref D) else m z) → News h₀ env.locals h ((D, lst ys) :: news') → Off1 D news' → Q .next { s₁ with heap := h, toks := tk }
theorem comp_listA {elt iter : Expr} {ifs : List Expr} {x y : Str} {px py : Pos} {scope : Scope} {cl : List (Str × Addr)} {pos spos : Pos} {Q : Flow → Shared → Prop}
    (hsw : swapsWith (.ListComp elt [⟨.Name x px, iter, ifs, 0⟩] scope pos) (some (.Name y py)) spos.line env = pure true)
    (hclos : closureFor scope env = pure cl) (hcell : ∀ y ∈ scope.names, y.2 ≠ .cell) (hkind : scope.kind = .function)
    (hnames : ∀ y ∈ scope.names, y.2 = .local → scope.names.lookup y.1 = some .local) (hx : scope.names.lookup x = some .local)
    (hy : env.kindOf y = some .local) (hp' : (env.scope.kind == .class || (env.scope.kind == .module && env.locals != env.globals)) = false)
    (h : wpAny (model prog w) A (eval iter env) (CompLA prog w A env elt ifs x scope cl y Q) E s)
    (hs : ∀ x, foldedSetIterable iter env x = pure x := by intro _; rfl) :
    wpAny (model prog w) A (exec (.Assign [.Name y py] (.ListComp elt [⟨.Name x px, iter, ifs, 0⟩] scope pos) spos) env) Q E s := by
  rw [exec_Assign_Name_used _ _ _ _ hsw]
  refine wpAny_bind (wpAny_standAt (wpAny_bind ?_))
  show wpAny _ A (do let _ ← comprehension (.ListComp elt [⟨.Name x px, iter, ifs, 0⟩] scope pos) scope env _ (newList []) false (eval iter env) (some (assign (.Name y py) env))) _ _ s
  refine wpAny_bind (wpAny_mono (wpAny_comprehension_free (use := some (assign (.Name y py) env)) (Q := fun _ s' => Q .next s') rfl hs hclos hkind hnames
    (wpAny_mono h (fun xv s₁ h₁ => ?_) fun _ _ e => e)) (fun _ s' hq => wpAny_pure (wpAny_pure hq)) fun _ _ e => e)
  (refine Uc.ex7 h₁ fun h₀ m ax its k news R => Uc.an9 fun e1q hh F N hm hsz hR T fin => ?_; clear h₁; subst e1q)
  have hl : s₁.heap.IsList ax its.toArray := ⟨_, (N _ hm).1, rfl, k, rfl⟩
  have hlt : ax < s₁.heap.objs.size := Heap.lt_size (N _ hm).1
  refine wpAny_pyIter_list hl ?_
  have W : Walks prog w A s₁.heap.objs.size [s₁.heap.objs.size, ax] [s₁.heap.objs.size] its.length (fun i v => its[i]? = some v) (fun i h => h.IsListIter s₁.heap.objs.size ax i ∧ h.IsList ax its.toArray) := by
    have := Walks.list (prog := prog) (w := w) (A := A) hh s₁.heap.objs.size ax (Nat.ne_of_lt hlt) its.toArray
    simpa using this
  refine comp_block (S := fun nw => (ax, listOf its.toArray k) ∈ nw) W (Nat.le_trans hsz (by decide)) (fun i h st => by obtain ⟨o, e, _⟩ := st.1; exact ⟨o, e⟩) (fun i h h' o nw st e1 e2 k0 N' S' => by
      obtain ⟨o', g1, g2⟩ := st.1
      rw [e1] at g1; cases g1
      exact ⟨⟨o, e2, g2⟩, ⟨_, (N' _ S').1, rfl, k, rfl⟩⟩) hcell hkind hx ⟨⟨_, Heap.get?_push_size _ rfl, rfl, rfl⟩, hl.push _⟩ (fun b hb => by
      show b < (s₁.heap.push _).objs.size
      rw [Heap.size_push]
      rcases List.mem_cons.mp hb with rfl | hb
      · exact Nat.lt_succ_self _
      · rw [List.mem_singleton.mp hb]; exact Nat.lt_succ_of_lt hlt)
    (F.push _) (fun p hp => ⟨Heap.get?_push_of_some _ (N p hp).1, (N p hp).2⟩) (Nat.ne_of_lt F.ns.lt) (next_is_new F) (fun p hp => Nat.ne_of_lt (Heap.lt_size (N p hp).1)) hm hR (T _) ?_
  intro D C h tk m' ys news' F' N' o1 hn hC₀ hD₀ hCL hDL hCD offC r
  show wpAny _ A (assign (.Name y py) env (.ref D)) _ _ _
  refine wpAny_assign_Name (wpAny_storeName_local hy F'.ns (fun h₂ hn₂ hs₂ => ?_) hp')
  have hL₀ : h₀.get? env.locals = none := Heap.get?_none_of_le F'.above
  have F₂ : Fr h₀ env.locals h₂ (fun z => if z = y then some (.ref D) else m z) := ⟨hn₂, fun b o e => hs₂.extBut b o (fun q => by rw [q, hL₀] at e; cases e) (F'.keep b o e), F'.above⟩
  refine ⟨m', hn.sameBut hs₂ hCL, fun h'' hs'' => fin D h'' _ ys news' r (F₂.change hs'' hCL hC₀) (fun p hp => ?_) o1⟩
  have z : h₂.get? p.1 = some p.2 := hs₂.extBut _ _ (N' p hp).2.1 (N' p hp).1
  refine ⟨hs''.extBut _ _ ?_ z, (N' p hp).2⟩
  rcases List.mem_cons.mp hp with rfl | hp
  · exact Ne.symm hCD
  · exact offC p hp
end
end Uc
end
section
namespace Uc
open PyProof.Rows.LCg
section
variable {prog : Program} {w : World} {A : Around} {E : Value → Shared → Prop} {s : Shared} {h₀ : Heap} {L : Addr} {m : Str → Option Value} {env : Env}
noncomputable def TurnsX (prog : Program) (w : World) (A : Around) (h₀ : Heap) (L : Addr) (m : Str → Option Value) (env : Env) (elt : Expr) (x : Str) (scope : Scope) (cl : List (Str × Addr)) (n : Nat) (P : Nat → Value → Prop) (S : List (Addr × Obj) → Prop) (R : Nat → List Value → List (Addr × Obj) → Prop) (s : Shared) : Prop :=
  ∀ X oX i v ys news I oI C oC D m₂ h tk (E' : Value → Shared → Prop), i < n → P i v → R i ys news → S news → NsObj oC m₂ → oX.data = .cell (some v) → Fr h₀ L h m → News h₀ L h ((I, oI) :: (C, oC) :: (D, lst ys) :: (X, oX) :: news) → Off3 I C D ((X, oX) :: news) → (∀ p ∈ news, p.1 ≠ X) → ((@Ne Nat I C) ∧ (@Ne Nat I D) ∧ (@Ne Nat C D)) →
    wpAny (model prog w) A (eval elt (compEnvC scope ((x, X) :: cl) C env)) (fun y s₄ => TurnC h₀ L m { s with heap := h, toks := tk } I oI C oC D (lst ys) (fun nw => ∃ nw', nw = (X, oX) :: nw' ∧ (∀ p ∈ nw', p.1 ≠ X) ∧ S nw' ∧ R (i + 1) (ys ++ [y]) nw') s₄) E' { s with heap := h, toks := tk }
theorem comp_blockX {elt iter : Expr} {x : Str} {px : Pos} {scope : Scope} {cl : List (Str × Addr)} {pos : Pos} {s₂ : Shared} {I : Addr} {fp : List Addr} {n : Nat} {P : Nat → Value → Prop} {St : Nat → Heap → Prop} {S : List (Addr × Obj) → Prop} {news : List (Addr × Obj)}
    {R : Nat → List Value → List (Addr × Obj) → Prop} {RR : Value → Addr → Result → Shared → Prop}
    (W : Walks prog w A I fp [I] n P St) (hsz : n ≤ sizeLine) (hIo : ∀ i h, St i h → ∃ o, h.get? I = some o)
    (hSt : ∀ i h h' o nw, St i h → h.get? I = some o → h'.get? I = some o → (∀ b o, h₀.get? b = some o → h'.get? b = some o) → News h₀ L h' nw → S nw → St i h')
    (hcells : ∀ k, cellsFrom k scope.names cl = (x, k) :: cl) (hpush : ∀ h, pushCells h scope.names = h.push { cls := .type "cell", data := .cell none }) (hkind : scope.kind = .function) (hx : (relabel scope env).names.lookup x = some .cell) (hst : St 0 s₂.heap) (hfp : ∀ b ∈ fp, b < s₂.heap.objs.size)
    (F : Fr h₀ L s₂.heap m) (N : News h₀ L s₂.heap news) (hIL : L ≠ I) (hI₀ : h₀.get? I = none) (off : ∀ p ∈ news, p.1 ≠ I) (hS : S news) (hR : R 0 [] news)
    (T : TurnsX prog w A h₀ L m env elt x scope cl n P S R s₂)
    (hRR : ∀ D C h tk m' ys news', Fr h₀ L h m → News h₀ L h ((D, lst ys) :: news') → Off1 D news' → h.Ns C m' → h₀.get? C = none → h₀.get? D = none → C ≠ L → D ≠ L → C ≠ D → (∀ p ∈ news', p.1 ≠ C) → R n ys news' → RR (.ref D) C (.ok .next) { s₂ with heap := h, toks := tk }) :
    wpAny (model prog w) A (newList []) (fun acc s₃ => wpAny (model prog w) A (newFunctionEnv scope env.globals cl [] env.qual none .none (some env)) (fun cenv s₄ =>
      codeAny (model prog w) A (.compStart (.ListComp elt [⟨.Name x px, iter, [], 0⟩] scope pos) 0 (.ref I) acc { cenv with scope := relabel scope env }) (RR acc cenv.locals) s₄) E s₃) E s₂ := by
  refine wpAny_newObj_type ?_
  simp only [newFunctionEnv, Option.isSome_some, if_true]
  refine wpAny_bind (wpAny_alloc ?_)
  refine wpAny_bind (wpAny_layCells _ (fun name kind cells => by cases hkc : kind == NameKind.cell <;> simp [hkc]) _ _ _ _ ?_)
  refine wpAny_bind ?_
  rw [List.forIn_nil]
  refine wpAny_pure (wpAny_pure ?_)
  (try dsimp only)
  rw [hcells, hpush]
  generalize hH2 : s₂.heap.push { cls := .type "list", dict := none, data := .seq ([] : List Value).toArray } = H2
  have hC : H2.objs.size = s₂.heap.objs.size + 1 := by rw [← hH2, Heap.size_push]
  have hX' : (H2.push { cls := .type "dict", data := .dict #[] }).objs.size = s₂.heap.objs.size + 1 + 1 := by rw [Heap.size_push, hC]
  generalize hXX : (H2.push { cls := .type "dict", data := .dict #[] }).objs.size = X at hX'
  have oldH2 : ∀ b o, s₂.heap.get? b = some o → H2.get? b = some o := fun b o e => hH2 ▸ Heap.get?_push_of_some _ e
  have hDH2 : H2.get? s₂.heap.objs.size = some (lst []) := hH2 ▸ Heap.get?_push_size _ rfl
  have hns₁ : ((H2.push { cls := .type "dict", data := .dict #[] }).push { cls := .type "cell", data := .cell none }).Ns H2.objs.size (fun _ => none) := (Heap.Ns.new H2 (.type "dict")).keeps fun b o e => Heap.get?_push_of_some _ e
  have hXcell : ((H2.push { cls := .type "dict", data := .dict #[] }).push { cls := .type "cell", data := .cell none }).get? X = some { cls := .type "cell", data := .cell none } := by rw [← hXX]; exact Heap.get?_push_size _ rfl
  have old : ∀ b o, s₂.heap.get? b = some o → ((H2.push { cls := .type "dict", data := .dict #[] }).push { cls := .type "cell", data := .cell none }).get? b = some o := fun b o e => Heap.get?_push_of_some _ (Heap.get?_push_of_some _ (oldH2 b o e))
  have hacc : ((H2.push { cls := .type "dict", data := .dict #[] }).push { cls := .type "cell", data := .cell none }).get? s₂.heap.objs.size = some (lst []) := Heap.get?_push_of_some _ (Heap.get?_push_of_some _ hDH2)
  generalize ((H2.push { cls := .type "dict", data := .dict #[] }).push { cls := .type "cell", data := .cell none }) = h₁ at hns₁ hXcell old hacc ⊢
  have hDC : s₂.heap.objs.size ≠ H2.objs.size := by rw [hC]; exact Nat.ne_of_lt (Nat.lt_succ_self _)
  have hDX : s₂.heap.objs.size ≠ X := by rw [hX']; exact Nat.ne_of_lt (Nat.lt_succ_of_lt (Nat.lt_succ_self _))
  have hCX : H2.objs.size ≠ X := by rw [hX', hC]; exact Nat.ne_of_lt (Nat.lt_succ_self _)
  have below : ∀ b, b < s₂.heap.objs.size → b ≠ H2.objs.size ∧ b ≠ s₂.heap.objs.size ∧ b ≠ X := fun b hb => ⟨by rw [hC]; exact Nat.ne_of_lt (Nat.lt_succ_of_lt hb), Nat.ne_of_lt hb, by rw [hX']; exact Nat.ne_of_lt (Nat.lt_succ_of_lt (Nat.lt_succ_of_lt hb))⟩
  have hDf : s₂.heap.objs.size ∉ fp := fun hm => Nat.lt_irrefl _ (hfp _ hm)
  have hCf : H2.objs.size ∉ fp := fun hm => (below _ (hfp _ hm)).1 rfl
  have hXf : X ∉ fp := fun hm => (below _ (hfp _ hm)).2.2 rfl
  have hIlt : I < s₂.heap.objs.size := hfp I (W.sub I (List.mem_singleton.mpr rfl))
  have hst₁ : St 0 h₁ := W.frame _ _ _ hst fun b _ o e => old b o e
  have fresh : ∀ a, s₂.heap.objs.size ≤ a → s₂.heap.get? a = none := fun a ha => by
    cases e : s₂.heap.get? a with
    | none => rfl
    | some o' => exact absurd (Heap.lt_size e) (Nat.not_lt.mpr ha)
  have fresh₀ : ∀ a, s₂.heap.objs.size ≤ a → h₀.get? a = none := fun a ha => by
    cases e : h₀.get? a with
    | none => rfl
    | some o' => have := F.keep a o' e; rw [fresh a ha] at this; cases this
  have hD₀ : h₀.get? s₂.heap.objs.size = none := fresh₀ _ (Nat.le_refl _)
  have hC₀ : h₀.get? H2.objs.size = none := fresh₀ _ (by rw [hC]; exact Nat.le_succ _)
  have hX₀ : h₀.get? X = none := fresh₀ _ (by rw [hX']; exact Nat.le_succ_of_le (Nat.le_succ _))
  have hLlt : L < s₂.heap.objs.size := F.ns.lt
  have hDL : s₂.heap.objs.size ≠ L := Ne.symm (below L hLlt).2.1
  have hCL : H2.objs.size ≠ L := Ne.symm (below L hLlt).1
  have hXL : X ≠ L := Ne.symm (below L hLlt).2.2
  have hCI : I ≠ H2.objs.size := (below I hIlt).1
  have hDI : I ≠ s₂.heap.objs.size := (below I hIlt).2.1
  have hXI : I ≠ X := (below I hIlt).2.2
  have off₀ : Off3 I H2.objs.size s₂.heap.objs.size news := Off3.of fun p hp => ⟨off p hp, (below _ (Heap.lt_size (N p hp).1)).1, (below _ (Heap.lt_size (N p hp).1)).2.1⟩
  have offX : ∀ p ∈ news, p.1 ≠ X := fun p hp => (below _ (Heap.lt_size (N p hp).1)).2.2
  have loop : ∀ s₃ : Shared, s₃ = { s₂ with heap := h₁ } →
      codeAny (model prog w) A (.compLoop (.ListComp elt [⟨.Name x px, iter, [], 0⟩] scope pos) 0 (.ref I) (.ref s₂.heap.objs.size) (compEnvC scope ((x, X) :: cl) H2.objs.size env))
        (RR (.ref s₂.heap.objs.size) H2.objs.size) s₃ := by
    rintro s₃ rfl
    refine codeAny_compLoop_tests
      (fun k s' => ∃ h' tk i ys m' oX vX news', s' = { s₂ with heap := h', toks := tk } ∧ i ≤ n ∧ k = n + 1 - i ∧ ys.length ≤ i ∧ St i h' ∧ Fr h₀ L h' m ∧ h'.Ns H2.objs.size m' ∧ oX.data = .cell vX ∧ News h₀ L h' ((s₂.heap.objs.size, lst ys) :: (X, oX) :: news') ∧
        Off3 I H2.objs.size s₂.heap.objs.size news' ∧ (∀ p ∈ news', p.1 ≠ X) ∧ S news' ∧ R i ys news') ?_ (n + 1)
      (Uc.ei8 h₁ _ 0 ([]) _ ({ cls := .type "cell", data := .cell none }) none news ⟨rfl, Nat.zero_le _, rfl, Nat.le_refl _, hst₁, F.keeps old, hns₁, rfl, fun p hp => ?_, off₀, offX, hS, hR⟩)
    · intro k s' q0; (refine Uc.ex8 q0 fun h' tk i ys m' oX vX news' => Uc.an13 fun e1q hi e2q hyl hst' F' hn' hoX N' off' offX' hS' R' => ?_; clear q0; subst e1q; subst e2q)
      have zX := (N' (X, oX) (.tail _ (.head _))).1
      by_cases hlt : i < n
      · refine W.item i _ _ _ hlt hst' fun v h₂ tk₂ hPv hst₂ hk₂ => ?_
        refine wpAny_assign_Name (wpAny_storeName_cell hkind hx (by simp [compEnvC]) ⟨oX, hk₂ _ oX (by simpa using Ne.symm hXI) zX, hoX⟩ (fun h₃ hc₃ hs₃ => ?_))
        (refine Uc.ex1 hc₃ fun oX' => Uc.an2 fun heX hoX' => ?_; clear hc₃)
        have hst₃ : St (i + 1) h₃ := W.frame _ _ _ hst₂ fun b hb o e => hs₃.extBut b o (fun q => hXf (by have q' : b = X := q; rw [← q']; exact hb)) e
        (refine Uc.ex1 (hIo _ _ hst₃) fun oI heI => ?_)
        have hn₃ : h₃.Ns H2.objs.size m' := (hn'.at' fun o e => hk₂ _ o (by simpa using Ne.symm hCI) e).sameBut hs₃ (Ne.symm (fun e => hCX e.symm))
        (refine Uc.ex1 (ns_obj hn₃) fun oC => Uc.an2 fun heC hoC => ?_)
        have F₃ : Fr h₀ L h₃ m := (fr_but F' hk₂ hIL hI₀).change hs₃ hXL hX₀
        have off3 := off'.mem
        have N₂ : News h₀ L h₂ ((s₂.heap.objs.size, lst ys) :: news') := news_but (News.sub N' fun p hp => by
          rcases List.mem_cons.mp hp with rfl | hp
          · exact .head _
          · exact .tail _ (.tail _ hp)) hk₂ fun p hp => by
          rcases List.mem_cons.mp hp with rfl | hp
          · exact Ne.symm hDI
          · exact (off3 p hp).1
        have N₃ : News h₀ L h₃ ((I, oI) :: (H2.objs.size, oC) :: (s₂.heap.objs.size, lst ys) :: (X, oX') :: news') := fun p hp => by
          rcases List.mem_cons.mp hp with rfl | hp
          · exact ⟨heI, Ne.symm hIL, hI₀⟩
          rcases List.mem_cons.mp hp with rfl | hp
          · exact ⟨heC, hCL, hC₀⟩
          rcases List.mem_cons.mp hp with rfl | hp
          · have z := N₂ _ (.head _)
            exact ⟨hs₃.extBut _ _ hDX z.1, z.2⟩
          rcases List.mem_cons.mp hp with rfl | hp
          · exact ⟨heX, hXL, hX₀⟩
          · have z := N₂ p (.tail _ hp)
            exact ⟨hs₃.extBut _ _ (offX' p hp) z.1, z.2⟩
        rw [List.forIn_nil]
        refine wpAny_pure ?_
        simp only [if_true]
        refine wpAny_mono (T X oX' i v ys news' I oI H2.objs.size oC s₂.heap.objs.size _ h₃ _ _ hlt hPv R' hS' hoC hoX' F₃ N₃ ⟨⟨Ne.symm hXI, Ne.symm hCX, Ne.symm hDX⟩, off'⟩ offX' ⟨hCI, hDI, Ne.symm hDC⟩) (fun y s₄ q => ?_) fun _ _ e => e
        (refine Uc.ex3 q fun h₄ tk₄ n₄ => Uc.an5 fun e1q F₄ N₄ off₄ q1q => Uc.ex1 q1q fun news₄ => Uc.an4 fun e2q offX₄ hS₄ R₄ => ?_; clear q q1q; subst e1q; subst e2q)
        have zI := (N₄ (I, oI) List.mem_cons_self).1
        have zC := (N₄ (H2.objs.size, oC) (List.mem_cons_of_mem _ List.mem_cons_self)).1
        have zD := (N₄ (s₂.heap.objs.size, lst ys) (List.mem_cons_of_mem _ (List.mem_cons_of_mem _ List.mem_cons_self))).1
        have N₄' : News h₀ L h₄ ((X, oX') :: news₄) := fun p hp => N₄ p (List.mem_cons_of_mem _ (List.mem_cons_of_mem _ (List.mem_cons_of_mem _ hp)))
        have hst₄ := hSt _ _ _ _ _ hst₃ heI zI F₄.keep (fun p hp => N₄' p (.tail _ hp)) hS₄
        refine append_at (hsz := by show ys.toArray.size ≤ sizeLine; rw [List.size_toArray]; exact Nat.le_trans hyl (Nat.le_trans hi hsz)) zD fun h₅ hs₅ hD₅ => ?_
        have off4 := off₄.mem
        refine ⟨n + 1 - (i + 1), Nat.sub_lt_sub_left (Nat.lt_succ_of_lt hlt) (Nat.lt_succ_self i), Uc.ei8 h₅ tk₄ (i + 1) (ys ++ [y]) _ oX' _ news₄ ⟨rfl, hlt, rfl, by rw [List.length_append, List.length_singleton]; omega, W.frame _ _ _ hst₄ fun b hb o e => hs₅.extBut b o (fun q => hDf (q ▸ hb)) e, F₄.change hs₅ hDL hD₀, (hoC.ns zC).sameBut hs₅ (Ne.symm hDC), hoX', fun p hp => ?_, off₄.2, offX₄, hS₄, R₄⟩⟩
        rcases List.mem_cons.mp hp with rfl | hp
        · exact ⟨hD₅.trans (congrArg some (lst_snoc ys y)), hDL, hD₀⟩
        · exact ⟨hs₅.extBut _ _ (off4 p hp).2.2 (N₄' p hp).1, (N₄' p hp).2⟩
      · obtain rfl : i = n := Nat.le_antisymm hi (Nat.not_lt.mp hlt)
        refine W.done _ _ _ hst' fun h₂ tk₂ hk₂ => ?_
        have off3 := off'.mem
        exact hRR _ _ h₂ tk₂ _ ys news' (fr_but F' hk₂ hIL hI₀) (news_but (News.sub N' fun p hp => by
          rcases List.mem_cons.mp hp with rfl | hp
          · exact .head _
          · exact .tail _ (.tail _ hp)) hk₂ fun p hp => by
          rcases List.mem_cons.mp hp with rfl | hp
          · exact Ne.symm hDI
          · exact (off3 p hp).1) off'.one (hn'.at' fun o e => hk₂ _ o (by simpa using Ne.symm hCI) e) hC₀ hD₀ hCL hDL (Ne.symm hDC) (fun p hp => (off3 p hp).2.1) R'
    · rcases List.mem_cons.mp hp with rfl | hp
      · exact ⟨hacc, hDL, hD₀⟩
      rcases List.mem_cons.mp hp with rfl | hp
      · exact ⟨hXcell, hXL, hX₀⟩
      · exact ⟨old _ _ (N p hp).1, (N p hp).2⟩
  exact codeAny_compStart_list (loop _ rfl) (W.self 0 _ _ _ hst₁ (loop _ rfl))
end
end Uc
end
section
namespace Uc
open PyProof.Rows.LCg
section
variable {prog : Program} {w : World} {A : Around} {E : Value → Shared → Prop} {s : Shared} {h₀ : Heap} {L : Addr} {m : Str → Option Value} {env : Env}
noncomputable def CompLX (prog : Program) (w : World) (A : Around) (env : Env) (elt : Expr) (x : Str) (scope : Scope) (cl : List (Str × Addr)) (Q : Value → Shared → Prop) (xv : Value) (s₁ : Shared) : Prop :=
  ∃ (h₀ : Heap) (L : Addr) (m : Str → Option Value) (ax : Addr) (its : List Value) (k : Nat) (news : List (Addr × Obj)) (R : Nat → List Value → List (Addr × Obj) → Prop), xv = .ref ax ∧ A.handled = none ∧ Fr h₀ L s₁.heap m ∧ News h₀ L s₁.heap news ∧ (ax, listOf its.toArray k) ∈ news ∧ its.length ≤ 10000 ∧ R 0 [] news ∧
    (∀ g, TurnsX prog w A h₀ L m env elt x scope cl its.length (fun i v => its[i]? = some v) (fun nw => (ax, listOf its.toArray k) ∈ nw) R { s₁ with heap := g }) ∧
    ∀ D h tk ys news', R its.length ys news' → Fr h₀ L h m → News h₀ L h ((D, lst ys) :: news') → Off1 D news' → Q (.ref D) { s₁ with heap := h, toks := tk }
theorem comp_listX {elt iter : Expr} {x : Str} {px : Pos} {scope : Scope} {cl : List (Str × Addr)} {pos : Pos} {Q : Value → Shared → Prop}
    (hclos : closureFor scope env = pure cl) (hcells : ∀ k, cellsFrom k scope.names cl = (x, k) :: cl) (hpush : ∀ h, pushCells h scope.names = h.push { cls := .type "cell", data := .cell none }) (hkind : scope.kind = .function)
    (hnames : ∀ y ∈ scope.names, y.2 = .local → scope.names.lookup y.1 = some .local) (hx : (relabel scope env).names.lookup x = some .cell)
    (h : wpAny (model prog w) A (eval iter env) (CompLX prog w A env elt x scope cl Q) E s)
    (hs : ∀ x, foldedSetIterable iter env x = pure x := by intro _; rfl) :
    wpAny (model prog w) A (eval (.ListComp elt [⟨.Name x px, iter, [], 0⟩] scope pos) env) Q E s := by
  rw [eval_ListComp]
  refine wpAny_comprehension_free (use := none) rfl hs hclos hkind hnames (wpAny_mono h (fun xv s₁ h₁ => ?_) fun _ _ e => e)
  (refine Uc.ex8 h₁ fun h₀ L m ax its k news R => Uc.an9 fun e1q hh F N hm hsz hR T fin => ?_; clear h₁; subst e1q)
  have hl : s₁.heap.IsList ax its.toArray := ⟨_, (N _ hm).1, rfl, k, rfl⟩
  have hlt : ax < s₁.heap.objs.size := Heap.lt_size (N _ hm).1
  refine wpAny_pyIter_list hl ?_
  have W : Walks prog w A s₁.heap.objs.size [s₁.heap.objs.size, ax] [s₁.heap.objs.size] its.length (fun i v => its[i]? = some v) (fun i h => h.IsListIter s₁.heap.objs.size ax i ∧ h.IsList ax its.toArray) := by
    have := Walks.list (prog := prog) (w := w) (A := A) hh s₁.heap.objs.size ax (Nat.ne_of_lt hlt) its.toArray
    simpa using this
  refine comp_blockX (S := fun nw => (ax, listOf its.toArray k) ∈ nw) W (Nat.le_trans hsz (by decide)) (fun i h st => by obtain ⟨o, e, _⟩ := st.1; exact ⟨o, e⟩) (fun i h h' o nw st e1 e2 k0 N' S' => by
      obtain ⟨o', g1, g2⟩ := st.1
      rw [e1] at g1; cases g1
      exact ⟨⟨o, e2, g2⟩, ⟨_, (N' _ S').1, rfl, k, rfl⟩⟩) hcells hpush hkind hx ⟨⟨_, Heap.get?_push_size _ rfl, rfl, rfl⟩, hl.push _⟩ (fun b hb => by
      show b < (s₁.heap.push _).objs.size
      rw [Heap.size_push]
      rcases List.mem_cons.mp hb with rfl | hb
      · exact Nat.lt_succ_self _
      · rw [List.mem_singleton.mp hb]; exact Nat.lt_succ_of_lt hlt)
    (F.push _) (fun p hp => ⟨Heap.get?_push_of_some _ (N p hp).1, (N p hp).2⟩) (Nat.ne_of_lt F.ns.lt) (next_is_new F) (fun p hp => Nat.ne_of_lt (Heap.lt_size (N p hp).1)) hm hR (T _) ?_
  intro D C h tk m' ys news' F' N' o1 hn hC₀ hD₀ hCL hDL hCD offC r
  refine ⟨m', hn, fun h'' hs'' => fin D h'' tk ys news' r (F'.change hs'' hCL hC₀) (fun p hp => ?_) o1⟩
  refine ⟨hs''.extBut _ _ ?_ (N' p hp).1, (N' p hp).2⟩
  rcases List.mem_cons.mp hp with rfl | hp
  · exact Ne.symm hCD
  · exact offC p hp
end
end Uc
end
section
namespace Uc
noncomputable def okE (e : Int × Value) : Bool := match e.2 with
  | .int k _ => e.1 == k && decide (0 ≤ k) && decide (k < 1000000)
  | _ => false
theorem hash_small {k : Int} (h : 0 ≤ k) (h' : k < 1000000) : hashInt k = k := by
  have e : rawHash k = k := by
    unfold rawHash
    have e1 : k.natAbs % (2 ^ 61 - 1) = k.natAbs := Nat.mod_eq_of_lt (by omega)
    have e2 : ((k.natAbs : Int) % ((2 ^ 61 - 1 : Nat) : Int)) = k := by
      rw [← Int.natCast_emod, e1]
      omega
    have e3 : ¬ k < 0 := by omega
    have e4 : (k == -1) = false := by simp; omega
    simp only [e3, if_false, e2, e4, Bool.false_eq_true]
  unfold hashInt
  rw [e, if_neg (by simp; omega)]
noncomputable def b1E (P : Params) : List (Int × Value) := match (o85 P).data with
  | .set es _ _ => es.toList
  | _ => []
theorem b1_ok (P : Params) : (b1E P).all okE = true := by kernel_rfl
noncomputable def b1K : List Int := [65024, 65025, 65026, 65027, 65028, 65029, 6150, 65030, 65031, 65032, 65033, 6155, 6156, 6157, 8203, 8204, 8205, 65034, 65035, 65036, 65037, 65038, 65039, 173, 847, 8288, 65279]
noncomputable def isB1 (c : Int) : Bool := b1K.any (· == c)
theorem b1_is (P : Params) (prog : Program) (w : World) : (o85 P).SetObjOf (intKind prog w) isB1 27 := by
  refine ⟨⟨rfl, rfl, rfl⟩, (b1E P).toArray, _, _, rfl, ?_, ?_, rfl, rfl⟩
  · intro e he
    have he : e ∈ b1E P := by simpa using he
    have := List.all_eq_true.mp (b1_ok P) e he
    unfold okE at this
    split at this
    · rename_i k t hk
      simp only [Bool.and_eq_true, beq_iff_eq, decide_eq_true_eq] at this
      rw [hk]
      refine ⟨⟨k, isInt_self k t, ?_⟩, rfl⟩
      show e.1 = hashInt k
      rw [hash_small this.1.2 this.2]
      exact this.1.1
    · cases this
  · intro k
    show isB1 k = true ↔ ∃ e ∈ (b1E P).toArray.toList, Value.isInt k e.2 = true
    have : isB1 k = (b1E P).any (fun e => Value.isInt k e.2) := rfl
    rw [this, List.any_eq_true]
noncomputable def okD (e : DictEntry) : Bool := match e.key, e.val with
  | .int k _, .str _ _ => e.hash == k && decide (0 ≤ k) && decide (k < 1000000)
  | _, _ => false
noncomputable def keyD (e : DictEntry) : Int := e.hash
noncomputable def valD (e : DictEntry) : Str := match e.val with
  | .str v _ => v
  | _ => Str.empty
noncomputable def incr : List Int → Bool
  | a :: b :: r => decide (a < b) && incr (b :: r)
  | _ => true
theorem incr_lt : ∀ {l : List Int} {a : Int}, incr (a :: l) = true → ∀ b ∈ l, a < b
  | [], _, _, b, h => absurd h (List.not_mem_nil)
  | c :: l, a, h, b, hb => by
    rw [incr, Bool.and_eq_true, decide_eq_true_eq] at h
    rcases List.mem_cons.mp hb with rfl | hb
    · exact h.1
    · exact Int.lt_trans h.1 (incr_lt h.2 b hb)
theorem incr_nodup : ∀ {l : List Int}, incr l = true → l.Nodup
  | [], _ => .nil
  | [a], _ => by simp
  | a :: b :: l, h => by
    have hl := incr_lt h
    rw [incr, Bool.and_eq_true, decide_eq_true_eq] at h
    exact List.nodup_cons.mpr ⟨fun hm => absurd (hl a hm) (Int.lt_irrefl _), incr_nodup h.2⟩
noncomputable def b3E : List DictEntry := tabFrom 0 tabKeys tabVals
noncomputable def b3L : List (Int × Str) := b3E.map fun e => (keyD e, valD e)
theorem b3_ok : b3E.all okD = true := by kernel_rfl
theorem b3_incr : incr (b3E.map keyD) = true := by kernel_rfl
noncomputable def b3? (c : Int) : Option Str := b3L.lookup c
theorem pairs_of {prog : Program} {w : World} : ∀ (l : List DictEntry), l.all okD = true → Pairs (intKind prog w) l (l.map fun e => (keyD e, e.val)) ∧ PyProof.V.FlatPairs PyData.int (l.map fun e => (keyD e, e.val)) ((l.map fun e => (keyD e, valD e)).map fun p => (PyData.int p.1, PyData.str p.2))
  | [], _ => ⟨.nil, .nil⟩
  | e :: l, h => by
    rw [List.all_cons, Bool.and_eq_true] at h
    obtain ⟨h1, h2⟩ := h
    obtain ⟨p, q⟩ := pairs_of l h2
    unfold okD at h1
    split at h1
    · rename_i k t v u hk hv
      simp only [Bool.and_eq_true, beq_iff_eq, decide_eq_true_eq] at h1
      refine ⟨.cons ?_ rfl p, ?_⟩
      · show Value.isInt (keyD e) e.key = true
        rw [hk, keyD, h1.1.1]
        exact isInt_self k t
      · have hv' : valD e = v := by rw [valD, hv]
        simp only [List.map_cons, hv', hv]
        exact .cons (.str v u) q
    · cases h1
theorem keys_of {prog : Program} {w : World} (l : List DictEntry) (h : l.all okD = true) : PySem.KeysOf (intKind prog w) l.toArray := by
  intro e he
  have he : e ∈ l := by simpa using he
  have := List.all_eq_true.mp h e he
  unfold okD at this
  split at this
  · rename_i k t v u hk hv
    simp only [Bool.and_eq_true, beq_iff_eq, decide_eq_true_eq] at this
    rw [hk]
    refine ⟨k, isInt_self k t, ?_⟩
    show e.hash = hashInt k
    rw [hash_small this.1.2 this.2]
    exact this.1.1
  · cases this
theorem b3_tab {prog : Program} {w : World} {h : Heap} {P : Params} (ho : h.get? 96 = some (o96 P)) : IntTab prog w h 96 (b3L.map fun p => (PyData.int p.1, PyData.str p.2)) := by
  refine TabAt.ofObj (by decide) ho (kvs := b3E.map fun e => (keyD e, e.val)) ⟨b3E.toArray, _, ⟨rfl, rfl, rfl⟩, rfl, keys_of _ b3_ok, ?_, ?_⟩ (pairs_of (prog := prog) (w := w) _ b3_ok).2
  · exact (pairs_of b3E b3_ok).1
  · have := incr_nodup b3_incr
    rw [List.map_map]
    exact this
theorem lookup_ints (c : Int) : ∀ l : List (Int × Str), PySem.Spec.lookup (.int c) (l.map fun p => (PyData.int p.1, PyData.str p.2)) = (l.lookup c).map PyData.str
  | [] => rfl
  | (k, v) :: l => by
    rw [List.map_cons, PySem.Spec.lookup, lookup_ints c l, List.lookup_cons]
    have : PySem.Spec.same (.int k) (.int c) = (k == c) := rfl
    rw [this]
    by_cases e : k = c
    · subst e; simp
    · rw [if_neg (by simpa using e)]
      have : (c == k) = false := by simpa using fun h => e h.symm
      rw [this]
theorem K_b1 (P : Params) : (K P).lookup 85 = some (o85 P) := by kernel_rfl
theorem K_b3 (P : Params) : (K P).lookup 96 = some (o96 P) := by kernel_rfl
theorem flat_str {v : Value} {x : Str} (h : PyProof.V.Flat v (.str x)) : ∃ t, v = .str x t := by
  have := h default
  cases this
  exact ⟨_, rfl⟩
theorem flat_none {v : Value} (h : PyProof.V.Flat v .none) : v = .none := by
  have := h default
  cases this
  rfl
noncomputable def mapB3 (c : Nat) : Str := match b3? c with
  | some v => v
  | none => Txt.lower ⟨#[c]⟩
section
variable (w : World) (p : Program) (loose : List Str) (mean : ExcName → Option Value) (mg mb : Str → Option Value)
theorem in_b1 (news : List (Addr × Obj)) (c : Nat) (tc : Tok) (hc : c < 1114112) :
    Con w p loose mean mg mb 95 4 12 [.str ⟨#[c]⟩ tc] news (fun _ => True) (fun v n => n = news ∧ v = .bool (isB1 c)) := by
  dsimp only [Con, Pm]
  k_fill
  intros
  rename_i hret
  refine wpAny_call ?_
  k_dflt cell_enter
  repeat' (first | (walk_at "P") | (walk_at "F"; walk_at "T"))
  rename (K w.params).In _ => hX
  rename Fr _ _ _ _ => hF
  refine in_argsetI hF (b1_is w.params _ _) (hX _ _ (K_b1 _)) (by decide) ?_
  repeat' (first | (walk_at "P") | (walk_at "F"; walk_at "T"))
  exact hret _ _ _ _ ⟨rfl, rfl⟩ (by assumption) (by assumption)
theorem map_b3 (news : List (Addr × Obj)) (c : Nat) (tc : Tok) (hc : c < 1114112) :
    Con w p loose mean mg mb 141 4 12 [.str ⟨#[c]⟩ tc] news (fun _ => True) (fun v n => n = news ∧ ∃ t, v = .str (mapB3 c) t) := by
  dsimp only [Con, Pm]
  k_fill
  intros
  rename_i hret
  refine wpAny_call ?_
  k_dflt cell_enter
  repeat' (first | (walk_at "P") | (walk_at "F"; walk_at "T"))
  rename (K w.params).In _ => hX
  rename Fr _ _ _ _ => hF
  have l1 : Str.length ⟨#[c]⟩ = 1 := rfl
  refine getMethod_intTab_get ((b3_tab (hX _ _ (K_b3 _))).keep hF.keep) ?_
  repeat' (first | (walk_at "P") | (walk_at "F"; walk_at "T"))
  refine call_get1_intTab ((b3_tab (hX _ _ (K_b3 _))).keep hF.keep) fun v hv => ?_
  have hv : PyProof.V.Flat v ((PySem.Spec.lookup (.int (c : Int)) (b3L.map fun p => (PyData.int p.1, PyData.str p.2))).getD .none) := hv
  rw [lookup_ints] at hv
  cases hb : b3? c with
  | some x =>
    have hb' : b3L.lookup (c : Int) = some x := hb
    rw [hb'] at hv
    obtain ⟨t, rfl⟩ : ∃ t, v = .str x t := flat_str hv
    repeat' (first | (walk_at "P") | (walk_at "F"; walk_at "T"))
    exact hret _ _ _ _ ⟨rfl, _, by rw [mapB3, hb]⟩ (by assumption) (by assumption)
  | none =>
    have hb' : b3L.lookup (c : Int) = none := hb
    rw [hb'] at hv
    obtain rfl : v = .none := flat_none hv
    repeat' (first | (walk_at "P") | (walk_at "F"; first | ((with_reducible show wpAny _ _ (call (Value.builtin "str.lower") _) _ _ _); refine SCL.lower (by omega) ?_; intro hLow) | (walk_at "T")))
    exact hret _ _ _ _ ⟨rfl, _, by rw [mapB3, hb]⟩ (by assumption) (by assumption)
end
end Uc
end
section
namespace Uc
open PyProof.Rows.LCg
noncomputable def keptL (l : List Nat) : List Str := (l.filter fun (c : Nat) => !isB1 (c : Int)).map fun (c : Nat) => if c < 128 then chr1 c else mapB3 c
theorem keptL_snoc (l : List Nat) (c : Nat) : keptL (l ++ [c]) = if isB1 (c : Int) then keptL l else keptL l ++ [if c < 128 then chr1 c else mapB3 c] := by
  unfold keptL
  rw [List.filter_append]
  cases h : isB1 (c : Int) <;> simp [h]
theorem kept_w {x : List Nat} (hx : x.length ≤ 100) (hb : ∀ c ∈ x, c < 1114112 ∧ (mapB3 c).length ≤ 100) : ((keptL x).map (·.length)).sum + (keptL x).length ≤ 1048576 := by
  have h1 : ∀ l : List Nat, (∀ c ∈ l, (mapB3 c).length ≤ 100) → ((keptL l).map (·.length)).sum ≤ 100 * l.length ∧ (keptL l).length ≤ l.length := fun l => by
    induction l with
    | nil => intro _; exact ⟨Nat.le_refl _, Nat.le_refl _⟩
    | cons c l ih =>
      intro h
      obtain ⟨a, b⟩ := ih fun c hc => h c (.tail _ hc)
      have hc := h c (.head _)
      unfold keptL at a b ⊢
      rw [List.filter_cons]
      split
      · simp only [List.map_cons, List.sum_cons, List.length_cons]
        have : (if c < 128 then chr1 c else mapB3 c).length ≤ 100 := by
          split
          · exact Nat.le_trans (Nat.le_refl 1) (by decide)
          · exact hc
        (walk_at "O")
      · simp only [List.length_cons]
        (walk_at "O")
  obtain ⟨a, b⟩ := h1 x fun c hc => (hb c hc).2
  (walk_at "O")
section
variable (w : World) (p : Program) (loose : List Str) (mean : ExcName → Option Value) (mg mb : Str → Option Value)
theorem kept_c (news : List (Addr × Obj)) (x : List Nat) (tx : Tok) (hx : x.length ≤ 100) (hb : ∀ c ∈ x, c < 1114112 ∧ (mapB3 c).length ≤ 100) :
    Con w p loose mean mg mb 224 16 60 [.str ⟨x.toArray⟩ tx] news (fun _ => True) (fun v n' => n' = news ∧ ∃ t, v = .str (Txt.join (Str.ofString "") (keptL x)) t) := by
  dsimp only [Con, Pm]
  k_fill
  intros
  rename_i hret
  refine wpAny_call ?_
  k_dflt cell_enter
  repeat' (first | (walk_at "P") | (walk_at "F"; first | ((with_reducible show wpAny _ _ (callWith _ (Value.builtin _) _ _ _) _ _ _); dsimp only; first | ((with_reducible show wpAny _ _ (callWith _ (Value.builtin "list.append") _ _ _) _ _ _); refine callWith_method1 ?_) | ((with_reducible show wpAny _ _ (callWith _ (Value.builtin "str.join") _ _ _) _ _ _); refine callWith_method1 ?_)) | ((with_reducible show wpAny _ _ (eval (PySem.Expr.ListComp _ _ _ _) _) _ _ _); (k_dflt (refine Uc.comp_str (by rfl) (by decide) (by rfl) (by decide) (by rfl) ?_))) | (walk_at "T")))
  rename Fr _ _ _ _ => F7
  rename News _ _ _ _ => N7
  have hy7 : (⟨x.toArray⟩ : Str).length = x.length := by show x.toArray.size = _; simp
  refine Uc.ei7 _ _ _ (⟨x.toArray⟩) _ news (fun i ys nw => nw = news ∧ StrsAre ys (keptL (x.take i))) ⟨rfl, rfl, F7, N7, by rw [hy7]; (walk_at "O"), ⟨rfl, by rw [List.take_zero]; exact .nil⟩, ?T, ?fin⟩
  case T =>
    intro g i v ys nw I oI C oC D m₂ h tk E' hi w7q w8q _ hoC hm2 F N off w9q; (refine Uc.ex2 w7q fun c t => Uc.an2 fun hc e1q => ?_; clear w7q; subst e1q); (refine Uc.ah2 w8q fun e1q hR => ?_; clear w8q; subst e1q); (refine Uc.ah3 w9q fun d1 d2 d3 => ?_; clear w9q)
    have hcl : x[i]? = some c := by simpa using hc
    obtain ⟨hc1, hc2⟩ := hb c (List.mem_of_getElem? hcl)
    have hk : keptL (x.take (i + 1)) = if isB1 (c : Int) then keptL (x.take i) else keptL (x.take i) ++ [if c < 128 then chr1 c else mapB3 c] := by
      rw [List.take_add_one, hcl]
      exact keptL_snoc _ _
    refine wpAny_tests_one ?_
    repeat' (first | (walk_at "P") | (walk_at "F"; walk_at "T"))
    (refine in_b1 w p loose mean mg mb _ c t hc1 _ _ _ _ _ _ _ _ _ _ _ _ _ _ _ _ _ (by assumption) (by assumption) (by assumption) (by assumption) (by assumption) (by first | assumption | rfl) ?pre (by first | assumption | exact Uc.room3 (by assumption) (by decide) | exact Uc.room2 (by assumption) (by decide) | ktr_room) (by first | assumption | exact Uc.room3 (by assumption) (by decide) | exact Uc.room2 (by assumption) (by decide) | ktr_units) ?_); (case pre => first | exact trivial | assumption)
    first | refine kE0nv ?_ | refine kE0vn ?_
    intro h' tk' F N
    cases hB : isB1 (c : Int) with
    | true =>
      rw [hB, if_pos rfl] at hk
      repeat' (first | (walk_at "P") | (walk_at "F"; walk_at "T"))
      (try simp only [Bool.not_true, Bool.false_eq_true, if_false])
      exact TurnC.mk nw (by assumption) (by assumption) (fun _ h => h) off ⟨trivial, rfl, by rw [hk]; exact hR⟩
    | false =>
      rw [hB, if_neg (by decide)] at hk
      repeat' (first | (walk_at "P") | (walk_at "F"; walk_at "T"))
      · rename (_ < (128 : Int)) => hlt
        have h128 : c < 128 := by
          have e : (chr1 c).cps.getD 0 0 = c := rfl
          have hlt' : ((c : Nat) : Int) < 128 := hlt
          (walk_at "O")
        rw [if_pos h128] at hk
        exact TurnC.mk nw (by assumption) (by assumption) (fun _ h => h) off ⟨trivial, rfl, by rw [hk]; exact StrsAre.append' hR (.cons _ _ .nil)⟩
      · rename (¬ _ < (128 : Int)) => hlt
        have h128 : ¬ c < 128 := by
          have hlt' : ¬ ((c : Nat) : Int) < 128 := hlt
          (walk_at "O")
        rw [if_neg h128] at hk
        (refine map_b3 w p loose mean mg mb _ c t hc1 _ _ _ _ _ _ _ _ _ _ _ _ _ _ _ _ _ (by assumption) (by assumption) (by assumption) (by assumption) (by assumption) (by first | assumption | rfl) ?pre (by first | assumption | exact Uc.room3 (by assumption) (by decide) | exact Uc.room2 (by assumption) (by decide) | ktr_room) (by first | assumption | exact Uc.room3 (by assumption) (by decide) | exact Uc.room2 (by assumption) (by decide) | ktr_units) ?_); (case pre => first | exact trivial | assumption)
        refine kEn1v ?_
        intro t' h' tk' F N
        repeat' (first | (walk_at "P") | (walk_at "F"; walk_at "T"))
        exact TurnC.mk nw (by assumption) (by assumption) (fun _ h => h) off ⟨trivial, rfl, by rw [hk]; exact StrsAre.append' hR (.cons _ _ .nil)⟩
  case fin =>
    rintro D h tk ys nw ⟨rfl, hR⟩ F N o1
    rw [hy7, List.take_of_length_le (Nat.le_refl _)] at hR
    repeat' (first | (walk_at "P") | (walk_at "F"; walk_at "T"))
    refine join_listW (ys := keptL x) (News.isList N (.head _)) hR (Nat.zero_le _) (kept_w hx hb) ?_
    intro t' k'
    repeat' (first | (walk_at "P") | (walk_at "F"; walk_at "T"))
    exact hret _ _ _ _ ⟨rfl, _, rfl⟩ (by assumption) (News.sub (by assumption) (by first | (intro _ h; first | exact h | exact .tail _ h | exact .tail _ (.tail _ h) | exact .tail _ (.tail _ (.tail _ h))) | ((with_reducible repeat (first | exact Uc.ledgR | refine Uc.ledgK ?_ | refine Uc.ledgD ?_)); done) | (intro _ h; simp only [List.mem_cons, List.mem_append, List.mem_singleton, List.not_mem_nil, or_false] at h ⊢; grind)))
end
end Uc
end
section
namespace Uc
section
variable (w : World) (p : Program) (loose : List Str) (mean : ExcName → Option Value) (mg mb : Str → Option Value)
theorem ws_make (news : List (Addr × Obj)) (x : Str) (tx : Tok) (hx : x.length ≤ 1000) :
    Con w p loose mean mg mb 203 8 30 [.str x tx] news (fun _ => True) (fun v n => ∃ a d P T vs tn tt tb k0 k1 k2 k3 k4, n = (a, instObj 203 d) :: (d, dictOf [{ hash := PyData.keyHash w.params (Str.ofString "raw"), key := Value.str (Str.ofString "raw") k0, val := .str x tx }, { hash := PyData.keyHash w.params (Str.ofString "n"), key := Value.str (Str.ofString "n") k1, val := .int ((wsOf x).n : Int) tn }, { hash := PyData.keyHash w.params (Str.ofString "nt"), key := Value.str (Str.ofString "nt") k2, val := .int ((wsOf x).nt : Int) tt }, { hash := PyData.keyHash w.params (Str.ofString "norm"), key := Value.str (Str.ofString "norm") k3, val := .ref P }, { hash := PyData.keyHash w.params (Str.ofString "is_simple"), key := Value.str (Str.ofString "is_simple") k4, val := .bool (decide (((wsOf x).cs.length : Int) ≤ 1)) }] 5) :: (P, { cls := Value.type "tuple", data := Data.seq #[Value.ref T, Value.int ((wsOf x).b : Int) tb] }) :: (T, { cls := Value.type "tuple", data := Data.seq vs.toArray }) :: news ∧ v = .ref a ∧ IntsAre vs (wsOf x).cs) := by
  dsimp only [Con, Pm]
  k_fill
  intros
  rename_i hret
  k_dflt (refine' call_cls ?k1 ?k2 ?k3 ?k4 ?k5 ?k6 ?_; (case k1 => k_asm); (case k2 => k_asm); (case k3 => k_asm); (case k4 => k_is); (case k5 => k_is); (case k6 => k_is); k_whole)
  intro x' d' h' F' N' l1 l2
  (try k_lt l1); (try k_lt2 l2); (try k_sweep)
  k_dflt cell_enter
  repeat' (first | (walk_at "P") | (walk_at "F"; (fail_if_success (with_reducible show wpAny _ _ (execs (PySem.Stmt.For _ _ _ _ ⟨115, _, _, _⟩ :: _) _) _ _ _)); walk_at "T"))
  rename News _ _ _ (_ :: _ :: _ :: _ :: news) => N1
  rename (_ < _ ∧ _ < _ ∧ _ < _ ∧ AllLt _ news) => hAl
  obtain ⟨R₀, hR₀, N2, hAl⟩ := News.cutLt N1 hAl
  rename Fr _ _ _ _ => F2
  walk_at "H"
  refine execs_join F2 (σ := (Addr × List Int × List Value × Nat × WS) × Tok × Tok × Tok) (fun c => (c.1.1, W.listOf c.1.2.2.1.toArray c.1.2.2.2.1) :: R₀)
     (fun c => [(Str.ofString "count", .ref c.1.1), (Str.ofString "b", .int (c.1.2.2.2.2.b : Int) c.2.1), (Str.ofString "n", .int (c.1.2.2.2.2.n : Int) c.2.2.1), (Str.ofString "nt", .int (c.1.2.2.2.2.nt : Int) c.2.2.2), (Str.ofString "self", .ref x')])
     (fun c => wsOf x = c.1.2.2.2.2 ∧ c.1.2.1 = c.1.2.2.2.2.cs ∧ IntsAre c.1.2.2.1 c.1.2.1 ∧ c.1.2.1.length = c.1.2.2.1.length ∧ (∀ p ∈ R₀, p.1 ≠ c.1.1) ∧ c.1.2.1.length ≤ 1000) ?j1 ?j2
  case j1 =>
    clear N2
    repeat' (first | (walk_at "P") | (walk_at "F"; walk_at "T"))
    rename News _ _ _ (_ :: _ :: _ :: _ :: news) => N1
    have N2 := N1
    rw [← hR₀] at N2
    refine iter_str (σ := (Addr × List Int × List Value × Nat × WS) × Tok × Tok × Tok × Tok × Tok) (fun c => (c.1.1, W.listOf c.1.2.2.1.toArray c.1.2.2.2.1) :: R₀)
     (fun c => [(Str.ofString "count", .ref c.1.1), (Str.ofString "b", .int (c.1.2.2.2.2.b : Int) c.2.1), (Str.ofString "n", .int (c.1.2.2.2.2.n : Int) c.2.2.1), (Str.ofString "nt", .int (c.1.2.2.2.2.nt : Int) c.2.2.2.1),
       (Str.ofString "S", .str (Str.ofString " ") c.2.2.2.2.1), (Str.ofString "T", .str (Str.ofString "\t") c.2.2.2.2.2), (Str.ofString "self", .ref x')])
     (fun i c => wsOf x = wsGo (x.cps.toList.drop i) c.1.2.2.2.2 ∧ c.1.2.1 = c.1.2.2.2.2.cs ∧ IntsAre c.1.2.2.1 c.1.2.1 ∧ c.1.2.1.length = c.1.2.2.1.length ∧ (∀ p ∈ R₀, p.1 ≠ c.1.1) ∧ c.1.2.2.2.2.b ≤ i ∧ c.1.2.2.2.2.n ≤ i ∧ c.1.2.2.2.2.nt ≤ i ∧ c.1.2.1.length ≤ i)
     ((_, [], [], 0, ⟨[], 0, 0, 0⟩), _, _, _, _, _) rfl (by assumption) N2 ⟨rfl, rfl, rfl, rfl, rfl, rfl, rfl, trivial⟩ ?hp ?turn ?done
    case hp => exact ⟨rfl, rfl, .nil, rfl, hAl, Nat.le_refl _, Nat.le_refl _, Nat.le_refl _, Nat.le_refl _⟩
    case turn =>
      intro i k t
      refine fpLLoooooRoooooR fun lc cs vs cnt st t1 t2 t3 t4 t5 => ?_
      intro u h tk I o hk hR1z hne hit F N
      have hR := hR1z.1
      have hcs := hR1z.2.1
      have hI := hR1z.2.2.1
      have hlen := hR1z.2.2.2.1
      have hne0 := hR1z.2.2.2.2.1
      have hb := hR1z.2.2.2.2.2.1
      have hn := hR1z.2.2.2.2.2.2.1
      have hnt := hR1z.2.2.2.2.2.2.2.1
      have hcl := hR1z.2.2.2.2.2.2.2.2
      clear hR1z
      k_sweep
      dsimp only at hR hcs hI hlen hne0 hb hn hnt hcl hne F N ⊢
      have hi : i < x.length := (Array.getElem?_eq_some_iff.mp hk).1
      rw [drop_some hk] at hR
      walk_at "H"
      refine J.start (gl_ok (by assumption) (by assumption)) F N rfl rfl ?_
      clear F N
      intro C
      ((repeat (refine Uc.J.nil ?_)); (first | (refine' Uc.J.ite ?ht ?jp ?_ ?_; (case ht => walk_at "h"); (case jp => exact rfl)) | (refine' Uc.J.ite_c ?ht ?jp ?jc ?_ ?_; (case ht => walk_at "h"); (case jp => exact rfl); (case jc => first | omega | skip))))
      · intro hc
        replace hc := beq_iff_eq.mpr hc
        rw [sp_is, chr_eq, beq_iff_eq] at hc
        subst hc
        ((repeat (refine Uc.J.nil ?_)); (first | (refine' Uc.J.asg ?ht ?jp ?jx ?js ?_; (case ht => walk_at "h"); (case jp => exact rfl); (case jx => exact rfl); (case js => exact rfl)) | (refine' Uc.J.asg_c ?ht ?jp ?jx ?js ?jc ?_; (case ht => walk_at "h"); (case jp => exact rfl); (case jx => exact rfl); (case js => exact rfl); (case jc => first | omega | skip)))); intro t6
        ((repeat (refine Uc.J.nil ?_)); (first | (refine' Uc.J.asg ?ht ?jp ?jx ?js ?_; (case ht => walk_at "h"); (case jp => exact rfl); (case jx => exact rfl); (case js => exact rfl)) | (refine' Uc.J.asg_c ?ht ?jp ?jx ?js ?jc ?_; (case ht => walk_at "h"); (case jp => exact rfl); (case jx => exact rfl); (case js => exact rfl); (case jc => first | omega | skip)))); intro t7
        (repeat (refine Uc.J.nil ?_))
        refine J.done ?_
        intro h' tk' F' N'
        dsimp only [C, Cx.sg] at F' N' ⊢
        walk_at "H"; exact Turn.next ((lc, cs, vs, cnt, ⟨st.cs, st.b + 1, st.n + 1, st.nt⟩), t7, t6, _, _, _) F' N' (by intro _ h; exact h) (by first | (intro p hp; left; rcases List.mem_cons.mp hp with rfl | hp <;> first | exact List.mem_map.mpr ⟨_, .head _, rfl⟩ | exact List.mem_map.mpr ⟨_, .tail _ hp, rfl⟩) | (intro p hp; left; simp only [List.mem_cons, List.map_cons] at hp ⊢; rcases hp with rfl | hp <;> first | exact .inl rfl | exact .inr (List.mem_map_of_mem hp))) ⟨rfl, rfl, rfl, rfl, rfl, rfl, rfl, trivial⟩ ⟨by rw [hR, wsGo, if_pos rfl], hcs, hI, hlen, hne0, Nat.succ_le_succ hb, Nat.succ_le_succ hn, Nat.le_succ_of_le hnt, Nat.le_succ_of_le hcl⟩
      · intro hc
        replace hc : ¬ k = 32 := fun e => hc (by subst e; rfl)
        ((repeat (refine Uc.J.nil ?_)); (first | (refine' Uc.J.ite ?ht ?jp ?_ ?_; (case ht => walk_at "h"); (case jp => exact rfl)) | (refine' Uc.J.ite_c ?ht ?jp ?jc ?_ ?_; (case ht => walk_at "h"); (case jp => exact rfl); (case jc => first | omega | skip))))
        · intro hd
          replace hd := beq_iff_eq.mpr hd
          rw [tab_is, chr_eq, beq_iff_eq] at hd
          subst hd
          ((repeat (refine Uc.J.nil ?_)); (first | (refine' Uc.J.asg ?ht ?jp ?jx ?js ?_; (case ht => walk_at "h"); (case jp => exact rfl); (case jx => exact rfl); (case js => exact rfl)) | (refine' Uc.J.asg_c ?ht ?jp ?jx ?js ?jc ?_; (case ht => walk_at "h"); (case jp => exact rfl); (case jx => exact rfl); (case js => exact rfl); (case jc => first | omega | skip)))); intro t6
          ((repeat (refine Uc.J.nil ?_)); (first | (refine' Uc.J.asg ?ht ?jp ?jx ?js ?_; (case ht => walk_at "h"); (case jp => exact rfl); (case jx => exact rfl); (case js => exact rfl)) | (refine' Uc.J.asg_c ?ht ?jp ?jx ?js ?jc ?_; (case ht => walk_at "h"); (case jp => exact rfl); (case jx => exact rfl); (case js => exact rfl); (case jc => first | omega | skip)))); intro t7
          obtain ⟨G, hGd⟩ : ∃ G, G = cs ++ List.replicate (st.b + 1 - cs.length) (0 : Int) := ⟨_, rfl⟩
          have hGl : st.b < G.length ∧ G.length ≤ i + 1 := by
            subst hGd
            simp only [List.length_append, List.length_replicate]
            (walk_at "O")
          refine J.stepJ (σ := Addr × List Value × Nat) (fun c => (c.1, W.listOf c.2.1.toArray c.2.2) :: (R₀ ++ [(I, o)]))
            (fun c => [(Str.ofString "count", .ref c.1), (Str.ofString "b", .int (st.b : Int) t1), (Str.ofString "n", .int ((st.n + 1 : Nat) : Int) t6), (Str.ofString "nt", .int ((st.nt + 1 : Nat) : Int) t7),
              (Str.ofString "S", .str (Str.ofString " ") t4), (Str.ofString "T", .str (Str.ofString "\t") t5), (Str.ofString "self", .ref x')])
            (fun c => IntsAre c.2.1 G ∧ (∀ p ∈ R₀ ++ [(I, o)], p.1 ≠ c.1)) ?g1 ?g2
          case g1 =>
            intro h tk F N
            dsimp only [C, Cx.sg] at F N ⊢
            repeat' (first | (walk_at "P") | (walk_at "F"; walk_at "T"))
            · rename IntsAre _ (cs ++ _) => hG
              rename (_ < _ ∧ _ < _ ∧ AllLt _ ((_, W.listOf vs.toArray cnt) :: _)) => hL
              rw [List.flatten_replicate_singleton, show ((st.b : Int) - (cs.length : Int) + 1).toNat = st.b + 1 - cs.length by (walk_at "O"), ← hGd] at hG
              exact ⟨(_, _, _), _, _, _, rfl, (by assumption), News.sub (by assumption) (by intro p hp; rcases List.mem_cons.mp hp with rfl | hp <;> first | exact .head _ | exact .tail _ (.tail _ (.tail _ (.tail _ hp)))), ⟨rfl, rfl, rfl, rfl, rfl, rfl, rfl, trivial⟩, hG, fun p hp => Nat.ne_of_lt (allLt_all hL.2.2 p (.tail _ hp))⟩
            · rw [show st.b + 1 - cs.length = 0 by (walk_at "O"), List.replicate_zero, List.append_nil] at hGd
              subst hGd
              exact ⟨(lc, vs, cnt), _, _, _, rfl, (by assumption), News.sub (by assumption) (by first | (intro _ h; first | exact h | exact .tail _ h | exact .tail _ (.tail _ h) | exact .tail _ (.tail _ (.tail _ h))) | ((with_reducible repeat (first | exact Uc.ledgR | refine Uc.ledgK ?_ | refine Uc.ledgD ?_)); done) | (intro _ h; simp only [List.mem_cons, List.mem_append, List.mem_singleton, List.not_mem_nil, or_false] at h ⊢; grind)), ⟨rfl, rfl, rfl, rfl, rfl, rfl, rfl, trivial⟩, hI, fun p hp => (List.mem_append.mp hp).elim (hne0 p) fun hp => by rw [List.mem_singleton.mp hp]; exact (hne _ (.head _)).symm⟩
          case g2 =>
            refine fpLoooR fun lc' vs' cnt' => ?_
            intro u hR2z
            have hG := hR2z.1
            have hne1 := hR2z.2
            clear hR2z
            dsimp only at hG hne1 ⊢
            have hvl := intsAre_len hG
            refine' J.tab (TbOk.addI tb0 (x := Str.ofString "count") (.loc ?hm rfl rfl) (.inl ⟨_, .head _⟩) hG) fun ht => ?_
            case hm => exact rfl
            refine' J.seti ht ?he rfl ?hi ⟨by rw [hvl]; exact hGl.1, by omega⟩ hne1 ?hs fun t8 => ?_
            case he => (first | (refine' Uc.Rs.holds_ok ?jp ?_; (case jp => exact rfl)) | (refine' Uc.Rs.holds_c ?jp ?jc ?_; (case jp => exact rfl); (case jc => first | omega | skip))); exact rfl
            case hi => (first | (refine' Uc.Rs.holds_ok ?jp ?_; (case jp => exact rfl)) | (refine' Uc.Rs.holds_c ?jp ?jc ?_; (case jp => exact rfl); (case jc => first | omega | skip))); exact rfl
            case hs => exact rfl
            ((repeat (refine Uc.J.nil ?_)); (first | (refine' Uc.J.asg ?ht ?jp ?jx ?js ?_; (case ht => walk_at "h"); (case jp => exact rfl); (case jx => exact rfl); (case js => exact rfl)) | (refine' Uc.J.asg_c ?ht ?jp ?jx ?js ?jc ?_; (case ht => walk_at "h"); (case jp => exact rfl); (case jx => exact rfl); (case js => exact rfl); (case jc => first | omega | skip)))); intro t9
            (repeat (refine Uc.J.nil ?_))
            refine J.done ?_
            intro h' tk' F' N'
            dsimp only [C, Cx.sg] at F' N' ⊢
            walk_at "H"; exact Turn.next ((lc', bump cs st.b, _, _, ⟨bump cs st.b, 0, st.n + 1, st.nt + 1⟩), t9, t6, t7, _, _) F' N' (by intro _ h; exact h) (by intro p hp; rcases List.mem_cons.mp hp with rfl | hp <;> first | exact .inr rfl | exact .inl (.tail _ (List.mem_map_of_mem hp)))
              ⟨rfl, rfl, rfl, rfl, rfl, rfl, rfl, trivial⟩ ⟨by rw [hR, wsGo, if_neg (by decide), if_pos rfl, ← hcs], rfl, by subst hGd; exact intsAre_set _ _ hG st.b, by subst hGd; simp only [bump, List.length_set]; exact hvl.symm, fun p hp => hne1 p (List.mem_append.mpr (.inl hp)), Nat.zero_le _, Nat.succ_le_succ hn, Nat.succ_le_succ hnt, by subst hGd; simp only [bump, List.length_set]; exact hGl.2⟩
        · intro hd
          replace hd : ¬ k = 9 := fun e => hd (by subst e; rfl)
          refine J.brk ?_
          intro h tk F N
          dsimp only [C, Cx.sg] at F N ⊢
          walk_at "H"
          refine Turn.brk ?_
          walk_at "H"
          walk_at "H"; exact GotF.mk ((lc, cs, vs, cnt, st), _, _, _) F N (by first | (intro _ h; first | exact h | exact .tail _ h | exact .tail _ (.tail _ h) | exact .tail _ (.tail _ (.tail _ h))) | ((with_reducible repeat (first | exact Uc.ledgR | refine Uc.ledgK ?_ | refine Uc.ledgD ?_)); done) | (intro _ h; simp only [List.mem_cons, List.mem_append, List.mem_singleton, List.not_mem_nil, or_false] at h ⊢; grind)) ⟨rfl, rfl, rfl, rfl, rfl, trivial⟩ ⟨by rw [hR, wsGo, if_neg hc, if_neg hd], hcs, hI, hlen, hne0, Nat.le_trans hcl (Nat.le_of_lt (Nat.lt_of_lt_of_le hi hx))⟩
    case done =>
      refine fpLLoooooRoooooR fun lc cs vs cnt st t1 t2 t3 t4 t5 => ?_
      intro u h tk hR3z F N
      have hR := hR3z.1
      have hcs := hR3z.2.1
      have hI := hR3z.2.2.1
      have hlen := hR3z.2.2.2.1
      have hne0 := hR3z.2.2.2.2.1
      have hb := hR3z.2.2.2.2.2.1
      have hn := hR3z.2.2.2.2.2.2.1
      have hnt := hR3z.2.2.2.2.2.2.2.1
      have hcl := hR3z.2.2.2.2.2.2.2.2
      clear hR3z
      k_sweep
      dsimp only at hR hcs hI hlen hne0 hb hn hnt hcl F N ⊢
      have hx' : x.cps.size = x.length := rfl
      rw [List.drop_of_length_le (by simp)] at hR
      walk_at "H"; exact GotF.mk ((lc, cs, vs, cnt, st), _, _, _) F N (fun _ h => h) ⟨rfl, rfl, rfl, rfl, rfl, trivial⟩ ⟨hR, hcs, hI, hlen, hne0, by dsimp only; (walk_at "O")⟩
  refine fpLLoooooRoooR fun lc cs vs cnt st t1 t2 t3 => ?_
  intro u h tk hR4z F N
  have hR := hR4z.1
  have hcs := hR4z.2.1
  have hI := hR4z.2.2.1
  have hlen := hR4z.2.2.2.1
  have hne0 := hR4z.2.2.2.2.1
  have hcl := hR4z.2.2.2.2.2
  clear hR4z
  k_sweep
  dsimp only at hR hcs hI hlen hne0 hcl F N ⊢
  subst hR₀
  simp only [List.forall_mem_cons] at hne0
  obtain ⟨q1, q2, q3, q4⟩ := hne0
  have q1 := neN q1
  have q2 := neN q2
  have q3 := neN q3
  repeat' (first | (walk_at "P") | (walk_at "F"; walk_at "T"))
  rename News _ _ _ (_ :: _ :: (lc, _) :: _) => N8
  have q5 := neN (News.ne N8 (.tail _ (.head _)) (.tail _ (.tail _ (.tail _ (.tail _ (.tail _ (.head _)))))) (fun e => by injection e with e; exact absurd e (by decide)))
  have q6 := neN (News.ne N8 (.tail _ (.head _)) (.tail _ (.tail _ (.tail _ (.tail _ (.head _))))) (fun e => by injection e))
  repeat' (first | (walk_at "P") | (walk_at "F"; walk_at "T"))
  subst hcs hR
  rename News _ _ _ (_ :: _ :: _ :: _ :: _ :: _ :: news) => kN
  exact hret _ _ _ _ (Uc.ei13 _ _ _ _ _ _ _ _ _ _ _ _ _ ⟨rfl, rfl, hI⟩) (by assumption) (News.sub kN fun p hp => by
    rcases List.mem_cons.mp hp with rfl | hp
    · exact .tail _ (.tail _ (.tail _ (.tail _ (.head _))))
    rcases List.mem_cons.mp hp with rfl | hp
    · exact .tail _ (.tail _ (.tail _ (.tail _ (.tail _ (.head _)))))
    rcases List.mem_cons.mp hp with rfl | hp
    · exact .head _
    rcases List.mem_cons.mp hp with rfl | hp
    · exact .tail _ (.head _)
    exact .tail _ (.tail _ (.tail _ (.tail _ (.tail _ (.tail _ hp))))))
end
end Uc
end
section
namespace Uc
noncomputable def ilSum (cs : List Int) (sz : Nat) : Nat → Int
  | 0 => 0
  | k + 1 => ilSum cs sz k + (((sz + k) / sz : Nat) : Int) * cs.getD (sz + k) 0
noncomputable def colOf (s : WS) (sz : Nat) : Int := s.b + sz * (ilSum s.cs sz (s.cs.length - sz) + s.nt)
section
variable (w : World) (p : Program) (loose : List Str) (mean : ExcName → Option Value) (mg mb : Str → Option Value)
theorem indent (news : List (Addr × Obj)) (x : Str) (a d P T : Addr) (vs : List Value) (tx tn tt tb k0 k1 k2 k3 k4 ts : Tok) (sz : Nat) (hx : x.length ≤ 1000) (hv : IntsAre vs (wsOf x).cs) (hl : vs.length ≤ 1000) (h1 : 1 ≤ sz) (h2 : sz ≤ 1000) :
    Con w p loose mean mg mb 172 8 30 [.ref a, .int (sz : Int) ts] ((a, instObj 203 d) :: (d, dictOf [{ hash := PyData.keyHash w.params (Str.ofString "raw"), key := Value.str (Str.ofString "raw") k0, val := .str x tx }, { hash := PyData.keyHash w.params (Str.ofString "n"), key := Value.str (Str.ofString "n") k1, val := .int ((wsOf x).n : Int) tn }, { hash := PyData.keyHash w.params (Str.ofString "nt"), key := Value.str (Str.ofString "nt") k2, val := .int ((wsOf x).nt : Int) tt }, { hash := PyData.keyHash w.params (Str.ofString "norm"), key := Value.str (Str.ofString "norm") k3, val := .ref P }, { hash := PyData.keyHash w.params (Str.ofString "is_simple"), key := Value.str (Str.ofString "is_simple") k4, val := .bool (decide (((wsOf x).cs.length : Int) ≤ 1)) }] 5) :: (P, { cls := Value.type "tuple", data := Data.seq #[Value.ref T, Value.int ((wsOf x).b : Int) tb] }) :: (T, { cls := Value.type "tuple", data := Data.seq vs.toArray }) :: news) (fun _ => True) (fun v n => n = (a, instObj 203 d) :: (d, dictOf [{ hash := PyData.keyHash w.params (Str.ofString "raw"), key := Value.str (Str.ofString "raw") k0, val := .str x tx }, { hash := PyData.keyHash w.params (Str.ofString "n"), key := Value.str (Str.ofString "n") k1, val := .int ((wsOf x).n : Int) tn }, { hash := PyData.keyHash w.params (Str.ofString "nt"), key := Value.str (Str.ofString "nt") k2, val := .int ((wsOf x).nt : Int) tt }, { hash := PyData.keyHash w.params (Str.ofString "norm"), key := Value.str (Str.ofString "norm") k3, val := .ref P }, { hash := PyData.keyHash w.params (Str.ofString "is_simple"), key := Value.str (Str.ofString "is_simple") k4, val := .bool (decide (((wsOf x).cs.length : Int) ≤ 1)) }] 5) :: (P, { cls := Value.type "tuple", data := Data.seq #[Value.ref T, Value.int ((wsOf x).b : Int) tb] }) :: (T, { cls := Value.type "tuple", data := Data.seq vs.toArray }) :: news ∧ ∃ t, v = .int (colOf (wsOf x) sz) t) := by
  have hlen := intsAre_len hv
  obtain ⟨led, hled⟩ : ∃ l, l = (a, instObj 203 d) :: (d, dictOf [{ hash := PyData.keyHash w.params (Str.ofString "raw"), key := Value.str (Str.ofString "raw") k0, val := .str x tx }, { hash := PyData.keyHash w.params (Str.ofString "n"), key := Value.str (Str.ofString "n") k1, val := .int ((wsOf x).n : Int) tn }, { hash := PyData.keyHash w.params (Str.ofString "nt"), key := Value.str (Str.ofString "nt") k2, val := .int ((wsOf x).nt : Int) tt }, { hash := PyData.keyHash w.params (Str.ofString "norm"), key := Value.str (Str.ofString "norm") k3, val := .ref P }, { hash := PyData.keyHash w.params (Str.ofString "is_simple"), key := Value.str (Str.ofString "is_simple") k4, val := .bool (decide (((wsOf x).cs.length : Int) ≤ 1)) }] 5) :: (P, { cls := Value.type "tuple", data := Data.seq #[Value.ref T, Value.int ((wsOf x).b : Int) tb] }) :: (T, { cls := Value.type "tuple", data := Data.seq vs.toArray }) :: news := ⟨_, rfl⟩
  rw [← hled]
  have hsub : ∀ p ∈ (a, instObj 203 d) :: (d, dictOf [{ hash := PyData.keyHash w.params (Str.ofString "raw"), key := Value.str (Str.ofString "raw") k0, val := .str x tx }, { hash := PyData.keyHash w.params (Str.ofString "n"), key := Value.str (Str.ofString "n") k1, val := .int ((wsOf x).n : Int) tn }, { hash := PyData.keyHash w.params (Str.ofString "nt"), key := Value.str (Str.ofString "nt") k2, val := .int ((wsOf x).nt : Int) tt }, { hash := PyData.keyHash w.params (Str.ofString "norm"), key := Value.str (Str.ofString "norm") k3, val := .ref P }, { hash := PyData.keyHash w.params (Str.ofString "is_simple"), key := Value.str (Str.ofString "is_simple") k4, val := .bool (decide (((wsOf x).cs.length : Int) ≤ 1)) }] 5) :: (P, { cls := Value.type "tuple", data := Data.seq #[Value.ref T, Value.int ((wsOf x).b : Int) tb] }) :: (T, { cls := Value.type "tuple", data := Data.seq vs.toArray }) :: news, p ∈ led := fun p hp => hled ▸ hp
  dsimp only [Con, Pm]
  k_fill
  intros
  rename_i hret
  refine wpAny_call ?_
  k_dflt cell_enter
  rename Fr _ _ _ _ => F0
  rename News _ _ _ _ => N0
  refine Uc.J.start (gl_ok (by assumption) (by assumption)) F0 N0 rfl rfl ?_
  clear F0 N0
  rename_i qk ek
  intro C
  have ret : ∀ {m : Str → Option Value} {v : Value} {h : Heap} {tk : Nat} {nw : Led}, (fun v n => n = led ∧ ∃ t, v = .int (colOf (wsOf x) sz) t) v nw → Fr C.h₀ C.L h m → News C.h₀ C.L h nw → C.Q (.ret v) (C.sg h tk) := by
    intro m v h tk nw hv F N
    dsimp only [C, qk] at F N ⊢
    exact leaveK_ F N fun kF kN => hret _ _ _ _ hv kF kN
  have hE : PassesOwn C.M C.A C.env C.E := PassesOwn.leaving
  have hnt : AttrOk C led a (Str.ofString "nt") (.int ((wsOf x).nt : Int) tt) := by
    intro m nw hs Q q h tk F N0
    have N := News.sub (b := (a, instObj 203 d) :: (d, dictOf [{ hash := PyData.keyHash w.params (Str.ofString "raw"), key := Value.str (Str.ofString "raw") k0, val := .str x tx }, { hash := PyData.keyHash w.params (Str.ofString "n"), key := Value.str (Str.ofString "n") k1, val := .int ((wsOf x).n : Int) tn }, { hash := PyData.keyHash w.params (Str.ofString "nt"), key := Value.str (Str.ofString "nt") k2, val := .int ((wsOf x).nt : Int) tt }, { hash := PyData.keyHash w.params (Str.ofString "norm"), key := Value.str (Str.ofString "norm") k3, val := .ref P }, { hash := PyData.keyHash w.params (Str.ofString "is_simple"), key := Value.str (Str.ofString "is_simple") k4, val := .bool (decide (((wsOf x).cs.length : Int) ≤ 1)) }] 5) :: (P, { cls := Value.type "tuple", data := Data.seq #[Value.ref T, Value.int ((wsOf x).b : Int) tb] }) :: (T, { cls := Value.type "tuple", data := Data.seq vs.toArray }) :: news) N0 fun p hp => hs p (hsub p hp)
    clear ret hE
    repeat' (first | (walk_at "P") | (walk_at "F"; walk_at "T"))
    exact q _ _ F N0
  -- count, trailing = self.norm
  refine J.step fun h tk F N0 => ?_
  have N := News.sub (b := (a, instObj 203 d) :: (d, dictOf [{ hash := PyData.keyHash w.params (Str.ofString "raw"), key := Value.str (Str.ofString "raw") k0, val := .str x tx }, { hash := PyData.keyHash w.params (Str.ofString "n"), key := Value.str (Str.ofString "n") k1, val := .int ((wsOf x).n : Int) tn }, { hash := PyData.keyHash w.params (Str.ofString "nt"), key := Value.str (Str.ofString "nt") k2, val := .int ((wsOf x).nt : Int) tt }, { hash := PyData.keyHash w.params (Str.ofString "norm"), key := Value.str (Str.ofString "norm") k3, val := .ref P }, { hash := PyData.keyHash w.params (Str.ofString "is_simple"), key := Value.str (Str.ofString "is_simple") k4, val := .bool (decide (((wsOf x).cs.length : Int) ≤ 1)) }] 5) :: (P, { cls := Value.type "tuple", data := Data.seq #[Value.ref T, Value.int ((wsOf x).b : Int) tb] }) :: (T, { cls := Value.type "tuple", data := Data.seq vs.toArray }) :: news) N0 hsub
  repeat' (first | (walk_at "P") | (walk_at "F"; walk_at "T"))
  refine J.next ?_ (by assumption) (News.sub (b := led) (by assumption) fun p hp => hled ▸ hp)
  refine J.gen [(Str.ofString "count", .ref T), (Str.ofString "trailing", .int ((wsOf x).b : Int) tb), (Str.ofString "tabsize", .int (sz : Int) ts), (Str.ofString "self", .ref a)] ⟨rfl, rfl, rfl, rfl, trivial⟩ fun u => ?_
  have hT : SeqIn led T vs := .inr (hsub _ (.tail _ (.tail _ (.tail _ (.head _)))))
  clear hsub
  ((repeat (refine Uc.J.nil ?_)); (first | (refine' Uc.J.asg ?ht ?jp ?jx ?js ?_; (case ht => walk_at "h"); (case jp => exact rfl); (case jx => exact rfl); (case js => exact rfl)) | (refine' Uc.J.asg_c ?ht ?jp ?jx ?js ?jc ?_; (case ht => walk_at "h"); (case jp => exact rfl); (case jx => exact rfl); (case js => exact rfl); (case jc => first | omega | skip)))); intro t0
  refine' J.tab (TbOk.addI tb0 (x := Str.ofString "count") (.loc ?hm rfl rfl) hT hv) fun ht => ?_
  case hm => exact rfl
  refine J.forR (σ := Int × Tok) (a := (sz : Int)) (b := (((wsOf x).cs.length : Nat) : Int)) (c := 1) (vs.length - sz) (fun _ => led)
    (fun c => [(Str.ofString "il", .int c.1 c.2), (Str.ofString "count", .ref T), (Str.ofString "tabsize", .int (sz : Int) ts), (Str.ofString "trailing", .int ((wsOf x).b : Int) tb), (Str.ofString "self", .ref a)])
    (fun i c => c.1 = ilSum (wsOf x).cs sz i) (0, t0) (range2 ht rfl rfl rfl ?ha ?hb) (rsmall (by omega) (by omega) (by omega) (by omega) (by omega) (by omega)) ?hn hE rfl (fun _ => rfl) ⟨rfl, rfl, rfl, rfl, rfl, trivial⟩ rfl ?turn ?done
  case ha => (first | (refine' Uc.Rs.holds_ok ?jp ?_; (case jp => exact rfl)) | (refine' Uc.Rs.holds_c ?jp ?jc ?_; (case jp => exact rfl); (case jc => first | omega | skip))); exact rfl
  case hb => (first | (refine' Uc.Rs.holds_ok ?jp ?_; (case jp => exact rfl)) | (refine' Uc.Rs.holds_c ?jp ?jc ?_; (case jp => exact rfl); (case jc => first | omega | skip))); exact rfl
  case hn =>
    unfold Builtin.Range.rangeSize
    rw [if_pos (by decide)]
    split <;> omega
  case turn =>
    clear ht
    intro i t
    refine fpLooR fun il t1 => ?_
    intro u I o hi hR hne hit C1
    dsimp -zeta only at hR hne ⊢
    have hq : ((sz : Int) + (i : Int) * 1).fdiv (sz : Int) = (((sz + i) / sz : Nat) : Int) := by
      rw [Int.fdiv_eq_ediv_of_nonneg _ (Int.natCast_nonneg _)]; push_cast; rw [Int.mul_one]
    have hq2 : (((sz + i) / sz : Nat) : Int) ≤ 2000 := Int.ofNat_le.mpr (Nat.le_trans (Nat.div_le_self _ _) (show sz + i ≤ 2000 by omega))
    refine' J.tab (TbOk.addI tb0 (x := Str.ofString "count") (.loc ?hm rfl rfl) (hT.imp (fun ⟨n, z⟩ => ⟨n, List.mem_append_left _ z⟩) fun z => List.mem_append_left _ z) hv) fun ht => ?_
    case hm => exact rfl
    refine' J.asg_c ht ?jp rfl ?js ?jc fun t2 => ?_
    case jp => exact rfl
    case js => exact rfl
    case jc =>
      refine ⟨⟨⟨by omega, by omega⟩, by omega, by omega, by omega⟩, ?_⟩
      rw [hq]
      exact ⟨Int.le_trans (by decide) (Int.natCast_nonneg _), Int.le_trans hq2 (by decide)⟩
    refine J.tn (_, t2) ⟨rfl, rfl, rfl, rfl, rfl, trivial⟩ ?_ fun p hp => .inl (List.mem_map_of_mem hp)
    show _ = ilSum _ _ i + _
    rw [hR, hq, show ((sz : Int) + (i : Int) * 1).toNat = sz + i by omega]
  case done =>
    refine fpLooR fun il t1 => ?_
    intro u hR
    dsimp only at hR ⊢
    refine' J.tab (TbOk.addA tb0 (x := Str.ofString "self") (.loc ?hm rfl rfl) hnt) fun ht => ?_
    case hm => exact rfl
    ((repeat (refine Uc.J.nil ?_)); (first | (refine' Uc.J.ret ?ht ?jp ?_; (case ht => walk_at "h"); (case jp => exact rfl)) | (refine' Uc.J.ret_c ?ht ?jp ?jc ?_; (case ht => walk_at "h"); (case jp => exact rfl); (case jc => first | omega | skip))))
    intro t h tk F N
    exact ret ⟨rfl, _, by rw [hR, hlen]; rfl⟩ F N
end
end Uc
end
section
namespace Uc
theorem inner_cons (c x : Nat) (xs : List Nat) (r : Int) (rs : List Int) (d res mn : Int) : inner c (x :: xs) (r :: rs) d res mn = (min (min res r + 2) (d + cst c x) :: (inner c xs rs r (min (min res r + 2) (d + cst c x)) (if min (min res r + 2) (d + cst c x) < mn then min (min res r + 2) (d + cst c x) else mn)).1, (inner c xs rs r (min (min res r + 2) (d + cst c x)) (if min (min res r + 2) (d + cst c x) < mn then min (min res r + 2) (d + cst c x) else mn)).2) := rfl
theorem inner_turn {c : Nat} {U : List Nat} {row : List Int} {j : Nat} {d res mn ρ : Int} {X : List Int × Int × Int} (hj : j < U.length) (hjr : j < row.length) (hρ : ρ = min (min res (row.getD j 0) + 2) (d + cst c (U.getD j 0)))
    (hJ : X = (row.take j ++ (inner c (U.drop j) (row.drop j) d res mn).1, (inner c (U.drop j) (row.drop j) d res mn).2)) :
    X = ((row.set j ρ).take (j + 1) ++ (inner c (U.drop (j + 1)) ((row.set j ρ).drop (j + 1)) (row.getD j 0) ρ (if ρ < mn then ρ else mn)).1, (inner c (U.drop (j + 1)) ((row.set j ρ).drop (j + 1)) (row.getD j 0) ρ (if ρ < mn then ρ else mn)).2) := by
  have hU' : U.drop j = U.getD j 0 :: U.drop (j + 1) := drop_getD hj
  have hR' : row.drop j = row.getD j 0 :: row.drop (j + 1) := (List.drop_eq_getElem_cons hjr).trans (by rw [List.getD_eq_getElem?_getD, List.getElem?_eq_getElem hjr]; rfl)
  rw [hU', hR', inner_cons, ← hρ] at hJ
  rw [hJ, List.drop_set_of_lt (Nat.lt_succ_self j), List.take_succ, List.take_set_of_le (Nat.le_refl j), List.getElem?_set_self hjr, Option.toList_some, List.append_assoc, List.singleton_append]
theorem outer_turn {U cs : List Nat} {mx x d res mn : Int} {c i : Nat} {row row' : List Int} (hJ : inner c U row ((i : Int) * 2) ((i : Int) * 2) BIG = (row' ++ (inner c [] [] d res mn).1, (inner c [] [] d res mn).2)) :
    outer U mx (c :: cs) i row x = if mx < mn then mx + 1 else outer U mx cs (i + 1) row' res := by
  have e : inner c U row ((i : Int) * 2) ((i : Int) * 2) BIG = (row', res, mn) := hJ.trans (show (row' ++ [], res, mn) = _ by rw [List.append_nil])
  show (if mx < (inner c U row ((i : Int) * 2) ((i : Int) * 2) BIG).2.2 then mx + 1 else outer U mx cs (i + 1) (inner c U row ((i : Int) * 2) ((i : Int) * 2) BIG).1 (inner c U row ((i : Int) * 2) ((i : Int) * 2) BIG).2.1) = _
  rw [e]
section
variable (w : World) (p : Program) (loose : List Str) (mean : ExcName → Option Value) (mg mb : Str → Option Value)
theorem int_is {x y : Int} {t : Tok} (h : x = y) : Value.int x t = Value.int y t := by rw [h]
theorem sub_cost (news : List (Addr × Obj)) (a b : Str) (ta tb : Tok) (ha : a.length ≤ 5000) (hb : b.length ≤ 5000) :
    Con w p loose mean mg mb 28 4 12 [.str a ta, .str b tb] news (fun _ => True) (fun v n => n = news ∧ ∃ t, v = .int (subCost a b) t) := by
  dsimp only [Con, Pm]
  k_fill
  intros
  rename_i hret
  refine wpAny_call ?_
  k_dflt cell_enter
  (refine Uc.letAE ?_; intro AA EE)
  repeat' (first | (walk_at "P") | (walk_at "F"; first | ((with_reducible show wpAny _ _ (call (Value.builtin "str.lower") _) _ _ _); refine SCL.lower (by omega) ?_; intro hLow) | (walk_at "T")))
  · rename (_ == _) = true => h1
    exact hret _ _ _ _ ⟨rfl, _, int_is (by rw [beq_iff_eq] at h1; rw [subCost, if_pos h1])⟩ (by assumption) (by assumption)
  · rename (a == b) = false => h1
    rename (_ == _) = true => h2
    exact hret _ _ _ _ ⟨rfl, _, int_is (by rw [beq_eq_false_iff_ne] at h1; rw [beq_iff_eq] at h2; rw [subCost, if_neg h1, if_pos h2])⟩ (by assumption) (by assumption)
  · rename (a == b) = false => h1
    rename (Txt.lower _ == _) = false => h2
    exact hret _ _ _ _ ⟨rfl, _, int_is (by rw [beq_eq_false_iff_ne] at h1 h2; rw [subCost, if_neg h1, if_neg h2])⟩ (by assumption) (by assumption)
noncomputable def subR2 (a b : Str) : List PV → Rs
  | [] => .cond (a.length ≤ 5000 ∧ b.length ≤ 5000) (.int (subCost a b))
  | _ :: _ => .bad
noncomputable def subR1 (a : Str) : List PV → Rs
  | .str b :: r => subR2 a b r
  | _ => .bad
noncomputable def subR : List PV → Rs
  | .str a :: r => subR1 a r
  | _ => .bad
theorem sub_fn {C : Cx} {pre : Heap → Prop} {d u : Nat} (ok : CxOk C p loose mean mg mb pre d u) (hx : C.env.kindOf (Str.ofString "_substitution_cost") = some .globalImplicit) (hw : C.w = w) (hd : 4 ≤ d := by decide) (hu : 12 ≤ u := by decide) : FnOk C (Str.ofString "_substitution_cost") subR := by
  refine FnOk.con ok rfl keep_sub hx rfl ?_
  subst hw
  intro m nw ps vs Q hv hr
  cases hv with
  | nil => exact hr.elim
  | @cons p1 v1 ps1 vs1 h1 r1 =>
    cases r1 with
    | nil => cases p1 <;> exact hr.elim
    | @cons p2 v2 ps2 vs2 h2 r2 =>
      obtain ⟨u1, rfl⟩ := h1
      obtain ⟨u2, rfl⟩ := h2
      cases p1 <;> try exact hr.elim
      cases p2 <;> try exact hr.elim
      cases r2 with
      | cons _ _ => exact hr.elim
      | nil => exact ok.call (sub_cost C.w p loose mean mg mb nw _ _ _ _ hr.1.1 hr.1.2) (fun v nw' ⟨e1, t, e2⟩ => by subst e1 e2; exact hr.2 t) (fun _ _ => trivial) hd hu
theorem wt_side {la lb s1 s2 k : Nat} {x : Int} (ha : la ≤ 1000) (hb : lb ≤ 1000) (e1 : s1 = la - k) (e2 : s2 = lb - k) (hx : 0 < s1 → 0 < s2 → (-(la : Int) ≤ x ∧ x < la) ∧ (-(lb : Int) ≤ x ∧ x < lb)) :
    (la ≤ 16777216 ∧ s1 ≤ 16777216) ∧ (0 < s1 → (lb ≤ 16777216 ∧ s2 ≤ 16777216) ∧ (0 < s2 → (la ≤ 16777216 ∧ -(la : Int) ≤ x ∧ x < la) ∧ lb ≤ 16777216 ∧ -(lb : Int) ≤ x ∧ x < lb)) := by
  have a1 : la ≤ 16777216 := Nat.le_trans ha (by decide)
  have b1 : lb ≤ 16777216 := Nat.le_trans hb (by decide)
  have a2 : s1 ≤ 16777216 := by rw [e1]; exact Nat.le_trans (Nat.sub_le _ _) a1
  have b2 : s2 ≤ 16777216 := by rw [e2]; exact Nat.le_trans (Nat.sub_le _ _) b1
  exact ⟨⟨a1, a2⟩, fun h1 => ⟨⟨b1, b2⟩, fun h2 => ⟨⟨a1, (hx h1 h2).1⟩, b1, (hx h1 h2).2⟩⟩⟩
theorem wt_pre {la lb k : Nat} (h1 : 0 < la - k) (h2 : 0 < lb - k) : (-(la : Int) ≤ (k : Int) ∧ (k : Int) < la) ∧ (-(lb : Int) ≤ (k : Int) ∧ (k : Int) < lb) := by omega
theorem wt_post {la lb k : Nat} (h1 : 0 < la - k) (h2 : 0 < lb - k) : (-(la : Int) ≤ -(k : Int) - 1 ∧ -(k : Int) - 1 < la) ∧ (-(lb : Int) ≤ -(k : Int) - 1 ∧ -(k : Int) - 1 < lb) := by omega
theorem lev (news : List (Addr × Obj)) (a b : Str) (ta tb tm : Tok) (mx : Int) (ha : a.length ≤ 1000) (hb : b.length ≤ 1000) (h1 : -1000 ≤ mx) (h2 : mx ≤ 100000) :
    Con w p loose mean mg mb 35 8 30 [.str a ta, .str b tb, .int mx tm] news (fun _ => True) (fun v n => n = news ∧ ∃ t, v = .int (levS a b mx) t) := by
  dsimp only [Con, Pm]
  k_fill
  intros
  rename_i hret
  refine wpAny_call ?_
  k_dflt cell_enter
  rename Fr _ _ _ _ => F0
  rename News _ _ _ _ => N0
  refine Uc.J.start (gl_ok (by assumption) (by assumption)) F0 N0 rfl rfl ?_
  clear F0 N0
  rename_i qk ek
  intro C
  have ret : ∀ {m : Str → Option Value} {v : Value} {h : Heap} {tk : Nat} {nw : Led}, (∃ t, v = .int (levS a b mx) t) → Fr C.h₀ C.L h m → News C.h₀ C.L h nw → (∀ p ∈ news, p ∈ nw) → C.Q (.ret v) (C.sg h tk) := by
    intro m v h tk nw hv F N hs
    dsimp only [C, qk] at F N ⊢
    exact leaveK_ F N fun kF kN => hret _ _ _ _ ⟨rfl, hv⟩ kF (News.sub kN hs)
  have okC : CxOk C p loose mean mg mb (fun _ => True) 4 12 := ⟨rfl, by assumption, by assumption, _, _, _, _, _, _, rfl, rfl, by assumption, trivial, by ktr_room, by ktr_units⟩
  have hF := sub_fn w p loose mean mg mb okC rfl rfl
  ((repeat (refine Uc.J.nil ?_)); (first | (refine' Uc.J.ite ?ht ?jp ?_ ?_; (case ht => walk_at "h"); (case jp => exact rfl)) | (refine' Uc.J.ite_c ?ht ?jp ?jc ?_ ?_; (case ht => walk_at "h"); (case jp => exact rfl); (case jc => first | omega | skip)))) <;> intro hab
  · ((repeat (refine Uc.J.nil ?_)); (first | (refine' Uc.J.ret ?ht ?jp ?_; (case ht => walk_at "h"); (case jp => exact rfl)) | (refine' Uc.J.ret_c ?ht ?jp ?jc ?_; (case ht => walk_at "h"); (case jp => exact rfl); (case jc => first | omega | skip)))); intro t h tk F N
    exact ret ⟨_, int_is (by subst hab; simp [levS, levL])⟩ F N fun _ h => h
  have hE : PassesOwn (model C.prog C.w) C.A C.env C.E := PassesOwn.leaving
  have hab' : a.cps.toList ≠ b.cps.toList := fun e => hab (by cases a; cases b; simp only [PySem.Str.mk.injEq]; exact Array.toList_inj.mp e)
  refine J.gen [(Str.ofString "a", .str a ta), (Str.ofString "b", .str b tb), (Str.ofString "max_cost", .int mx tm)] ⟨rfl, rfl, rfl, trivial⟩ fun u => ?_
  ((repeat (refine Uc.J.nil ?_)); (first | (refine' Uc.J.asg ?ht ?jp ?jx ?js ?_; (case ht => walk_at "h"); (case jp => exact rfl); (case jx => exact rfl); (case js => exact rfl)) | (refine' Uc.J.asg_c ?ht ?jp ?jx ?js ?jc ?_; (case ht => walk_at "h"); (case jp => exact rfl); (case jx => exact rfl); (case js => exact rfl); (case jc => first | omega | skip)))); intro t
  refine J.while (σ := Nat × Tok) (fun _ => news) (fun c => [(Str.ofString "pre", .int c.1 c.2), (Str.ofString "a", .str a ta), (Str.ofString "b", .str b tb), (Str.ofString "max_cost", .int mx tm)])
      (fun c => c.1 ≤ a.length ∧ c.1 ≤ b.length ∧ sPre (a.cps.toList.drop c.1) (b.cps.toList.drop c.1) = sPre a.cps.toList b.cps.toList) (fun c => a.length - c.1) (0, t) (fun _ => { gl := C.gl }) (fun _ _ _ => tb0) hE ⟨rfl, rfl, rfl, rfl, trivial⟩ ⟨Nat.zero_le _, Nat.zero_le _, rfl⟩ ?_
  refine fpLooR fun k t => ?_
  intro u hP
  dsimp -zeta only at hP ⊢
  have sa := slF_len a k
  have sb := slF_len b k
  refine' Uc.Bs.holds_c ?jp (wt_side ha hb sa sb fun h1 h2 => wt_pre (sa ▸ h1) (sb ▸ h2)) ⟨fun hp => ?_, fun hp => ?_⟩
  case jp => exact rfl
  · intro C0
    ((repeat (refine Uc.J.nil ?_)); (first | (refine' Uc.J.aug ?ht ?jp ?jx ?_; (case ht => walk_at "h"); (case jp => exact rfl); (case jx => exact rfl); skip) | (refine' Uc.J.aug_c ?ht ?jp ?jx ?jc ?_; (case ht => walk_at "h"); (case jp => exact rfl); (case jx => exact rfl); (case jc => first | omega | skip))))
    intro t'
    have ka : k < a.length := by omega
    have kb : k < b.length := by omega
    have he := hp.2.2
    rw [item_nat a k ka, item_nat b k kb, sgl_eq] at he
    exact J.turn (k + 1, t') ⟨rfl, rfl, rfl, rfl, trivial⟩ ⟨ka, kb, (sPre_step ka kb he).trans hP.2.2⟩ (Nat.sub_succ_lt_self _ _ ka)
  have hZ : sPre a.cps.toList b.cps.toList = (a.cps.toList.drop k, b.cps.toList.drop k) := by
    refine hP.2.2.symm.trans (sPre_stop ?_)
    by_cases ka : k < a.length
    · by_cases kb : k < b.length
      · refine .inr (.inr fun e => hp ⟨by omega, by omega, ?_⟩)
        rw [item_nat a k ka, item_nat b k kb, sgl_eq]
        exact e
      · exact .inr (.inl (Nat.le_of_not_lt kb))
    · exact .inl (Nat.le_of_not_lt ka)
  clear hp hP sa sb
  ((repeat (refine Uc.J.nil ?_)); (first | (refine' Uc.J.asg ?ht ?jp ?jx ?js ?_; (case ht => walk_at "h"); (case jp => exact rfl); (case jx => exact rfl); (case js => exact rfl)) | (refine' Uc.J.asg_c ?ht ?jp ?jx ?js ?jc ?_; (case ht => walk_at "h"); (case jp => exact rfl); (case jx => exact rfl); (case js => exact rfl); (case jc => first | omega | skip)))); intro t1
  ((repeat (refine Uc.J.nil ?_)); (first | (refine' Uc.J.asg ?ht ?jp ?jx ?js ?_; (case ht => walk_at "h"); (case jp => exact rfl); (case jx => exact rfl); (case js => exact rfl)) | (refine' Uc.J.asg_c ?ht ?jp ?jx ?js ?jc ?_; (case ht => walk_at "h"); (case jp => exact rfl); (case jx => exact rfl); (case js => exact rfl); (case jc => first | omega | skip)))); intro t2
  ((repeat (refine Uc.J.nil ?_)); (first | (refine' Uc.J.asg ?ht ?jp ?jx ?js ?_; (case ht => walk_at "h"); (case jp => exact rfl); (case jx => exact rfl); (case js => exact rfl)) | (refine' Uc.J.asg_c ?ht ?jp ?jx ?js ?jc ?_; (case ht => walk_at "h"); (case jp => exact rfl); (case jx => exact rfl); (case js => exact rfl); (case jc => first | omega | skip)))); intro t3
  dsimp only [PV.den]
  rw [slF a k, slF b k]
  have lA : (a.cps.toList.drop k).length ≤ 1000 := by rw [List.length_drop]; exact Nat.le_trans (Nat.sub_le _ _) ha
  have lB : (b.cps.toList.drop k).length ≤ 1000 := by rw [List.length_drop]; exact Nat.le_trans (Nat.sub_le _ _) hb
  have hL : levS a b mx = lev2 (sPre (a.cps.toList.drop k).reverse (b.cps.toList.drop k).reverse).1.reverse (sPre (a.cps.toList.drop k).reverse (b.cps.toList.drop k).reverse).2.reverse mx := by
    unfold levS levL
    rw [if_neg hab', hZ]
  rw [hL] at ret
  clear hL hZ hab' hab ha hb
  obtain ⟨A, hA⟩ : ∃ A, A = a.cps.toList.drop k := ⟨_, rfl⟩
  obtain ⟨B, hB⟩ : ∃ B, B = b.cps.toList.drop k := ⟨_, rfl⟩
  rw [← hA] at ret lA ⊢
  rw [← hB] at ret lB ⊢
  clear hA hB
  have eA := str_len A
  have eB := str_len B
  refine J.while (σ := Nat × Tok) (fun _ => news) (fun c => [(Str.ofString "post", .int (-(c.1 : Int)) c.2), (Str.ofString "a", .str ⟨A.toArray⟩ t1), (Str.ofString "b", .str ⟨B.toArray⟩ t2), (Str.ofString "max_cost", .int mx tm)])
      (fun c => c.1 ≤ A.length ∧ c.1 ≤ B.length ∧ sPre (A.reverse.drop c.1) (B.reverse.drop c.1) = sPre A.reverse B.reverse) (fun c => A.length - c.1) (0, t3) (fun _ => { gl := C.gl }) (fun _ _ _ => tb0) hE ⟨rfl, rfl, rfl, rfl, trivial⟩ ⟨Nat.zero_le _, Nat.zero_le _, rfl⟩ ?_
  refine fpLooR fun q t => ?_
  intro u hP
  dsimp -zeta only at hP ⊢
  have qA : q ≤ Str.length ⟨A.toArray⟩ := by rw [eA]; exact hP.1
  have qB : q ≤ Str.length ⟨B.toArray⟩ := by rw [eB]; exact hP.2.1
  have sa := slQ_len ⟨A.toArray⟩ q qA
  have sb := slQ_len ⟨B.toArray⟩ q qB
  refine' Uc.Bs.holds_c ?jp (wt_side (eA ▸ lA) (eB ▸ lB) sa sb fun h1 h2 => wt_post (sa ▸ h1) (sb ▸ h2)) ⟨fun hp => ?_, fun hp => ?_⟩
  case jp => exact rfl
  · intro C0
    ((repeat (refine Uc.J.nil ?_)); (first | (refine' Uc.J.aug ?ht ?jp ?jx ?_; (case ht => walk_at "h"); (case jp => exact rfl); (case jx => exact rfl); skip) | (refine' Uc.J.aug_c ?ht ?jp ?jx ?jc ?_; (case ht => walk_at "h"); (case jp => exact rfl); (case jx => exact rfl); (case jc => first | omega | skip))))
    intro t'
    have ka : q < A.length := by omega
    have kb : q < B.length := by omega
    have he := hp.2.2
    rw [item_rev _ q (by rw [eA]; exact ka), item_rev _ q (by rw [eB]; exact kb), sgl_eq] at he
    exact J.turn (q + 1, t') ⟨congrArg some (int_is (show -(q : Int) - 1 = -((q + 1 : Nat) : Int) by omega)), rfl, rfl, rfl, trivial⟩
      ⟨ka, kb, (sPre_step (by rw [List.length_reverse]; exact ka) (by rw [List.length_reverse]; exact kb) he).trans hP.2.2⟩ (Nat.sub_succ_lt_self _ _ ka)
  have hZ : sPre A.reverse B.reverse = (A.reverse.drop q, B.reverse.drop q) := by
    refine hP.2.2.symm.trans (sPre_stop ?_)
    by_cases ka : q < A.length
    · by_cases kb : q < B.length
      · refine .inr (.inr fun e => hp ⟨by omega, by omega, ?_⟩)
        rw [item_rev _ q (by rw [eA]; exact ka), item_rev _ q (by rw [eB]; exact kb), sgl_eq]
        exact e
      · exact .inr (.inl (by rw [List.length_reverse]; exact Nat.le_of_not_lt kb))
    · exact .inl (by rw [List.length_reverse]; exact Nat.le_of_not_lt ka)
  rw [hZ] at ret
  dsimp only at ret
  rw [List.drop_reverse, List.drop_reverse, List.reverse_reverse, List.reverse_reverse] at ret
  clear hp hP hZ
  ((repeat (refine Uc.J.nil ?_)); (first | (refine' Uc.J.asg ?ht ?jp ?jx ?js ?_; (case ht => walk_at "h"); (case jp => exact rfl); (case jx => exact rfl); (case js => exact rfl)) | (refine' Uc.J.asg_c ?ht ?jp ?jx ?js ?jc ?_; (case ht => walk_at "h"); (case jp => exact rfl); (case jx => exact rfl); (case js => exact rfl); (case jc => first | omega | skip)))); intro t4
  ((repeat (refine Uc.J.nil ?_)); (first | (refine' Uc.J.asg ?ht ?jp ?jx ?js ?_; (case ht => walk_at "h"); (case jp => exact rfl); (case jx => exact rfl); (case js => exact rfl)) | (refine' Uc.J.asg_c ?ht ?jp ?jx ?js ?jc ?_; (case ht => walk_at "h"); (case jp => exact rfl); (case jx => exact rfl); (case js => exact rfl); (case jc => first | omega | skip)))); intro t5
  dsimp only [PV.den]
  rw [slQ _ q qA, slQ _ q qB, eA, eB]
  clear sa sb qA qB eA eB
  have lX : (A.take (A.length - q)).length ≤ 1000 := by rw [List.length_take]; exact Nat.le_trans (Nat.min_le_right _ _) lA
  have lY : (B.take (B.length - q)).length ≤ 1000 := by rw [List.length_take]; exact Nat.le_trans (Nat.min_le_right _ _) lB
  dsimp only
  obtain ⟨X, hX⟩ : ∃ X, X = A.take (A.length - q) := ⟨_, rfl⟩
  obtain ⟨Y, hY⟩ : ∃ Y, Y = B.take (B.length - q) := ⟨_, rfl⟩
  rw [← hX] at ret lX ⊢
  rw [← hY] at ret lY ⊢
  clear hX hY lA lB
  refine J.gen [(Str.ofString "a", .str ⟨X.toArray⟩ t4), (Str.ofString "b", .str ⟨Y.toArray⟩ t5), (Str.ofString "max_cost", .int mx tm)] ⟨rfl, rfl, rfl, trivial⟩ fun u => ?_
  have eX := str_len X
  have eY := str_len Y
  ((repeat (refine Uc.J.nil ?_)); (first | (refine' Uc.J.ite ?ht ?jp ?_ ?_; (case ht => walk_at "h"); (case jp => exact rfl)) | (refine' Uc.J.ite_c ?ht ?jp ?jc ?_ ?_; (case ht => walk_at "h"); (case jp => exact rfl); (case jc => first | omega | skip)))) <;> intro h0
  · ((repeat (refine Uc.J.nil ?_)); (first | (refine' Uc.J.ret ?ht ?jp ?_; (case ht => walk_at "h"); (case jp => exact rfl)) | (refine' Uc.J.ret_c ?ht ?jp ?jc ?_; (case ht => walk_at "h"); (case jp => exact rfl); (case jc => first | omega | skip))))
    intro t h tk F N
    refine ret ⟨_, int_is ?_⟩ F N fun _ h => h
    rw [lev2, if_pos (by omega), eX, eY]
  have z0 : ¬ (X.length = 0 ∨ Y.length = 0) := by omega
  clear h0
  ((repeat (refine Uc.J.nil ?_)); (first | (refine' Uc.J.ite ?ht ?jp ?_ ?_; (case ht => walk_at "h"); (case jp => exact rfl)) | (refine' Uc.J.ite_c ?ht ?jp ?jc ?_ ?_; (case ht => walk_at "h"); (case jp => exact rfl); (case jc => first | omega | skip)))) <;> intro h40
  · ((repeat (refine Uc.J.nil ?_)); (first | (refine' Uc.J.ret ?ht ?jp ?_; (case ht => walk_at "h"); (case jp => exact rfl)) | (refine' Uc.J.ret_c ?ht ?jp ?jc ?_; (case ht => walk_at "h"); (case jp => exact rfl); (case jc => first | omega | skip))))
    intro t h tk F N
    refine ret ⟨_, int_is ?_⟩ F N fun _ h => h
    rw [lev2, if_neg z0, if_pos (by omega)]
  have z40 : ¬ (40 < X.length ∨ 40 < Y.length) := by omega
  clear h40
  have fin : ∀ (U V : List Nat) (t1 t2 t3 : Tok) (u : Str → Option Value), lev2 X Y mx = lev3 U V mx → 1 ≤ U.length → U.length ≤ V.length → V.length ≤ 40 →
    J C (fm u [(Str.ofString "a", .str ⟨U.toArray⟩ t1), (Str.ofString "b", .str ⟨V.toArray⟩ t2), (Str.ofString "max_cost", .int mx t3)]) news (Uc.f6_body.drop 12) [] := by
    intro U V t1 t2 t3 u hT hU1 hUV hV
    rw [hT] at ret
    clear hT lX lY eX eY z0 z40
    have lU := str_len U
    have lV := str_len V
    ((repeat (refine Uc.J.nil ?_)); (first | (refine' Uc.J.ite ?ht ?jp ?_ ?_; (case ht => walk_at "h"); (case jp => exact rfl)) | (refine' Uc.J.ite_c ?ht ?jp ?jc ?_ ?_; (case ht => walk_at "h"); (case jp => exact rfl); (case jc => first | omega | skip)))) <;> intro h0
    · ((repeat (refine Uc.J.nil ?_)); (first | (refine' Uc.J.ret ?ht ?jp ?_; (case ht => walk_at "h"); (case jp => exact rfl)) | (refine' Uc.J.ret_c ?ht ?jp ?jc ?_; (case ht => walk_at "h"); (case jp => exact rfl); (case jc => first | omega | skip))))
      intro t h tk F N
      exact ret ⟨_, int_is (by rw [lev3, if_pos (by omega)])⟩ F N fun _ h => h
    (repeat (refine Uc.J.nil ?_))
    refine J.lrange U.length tb0 rfl rfl (range3 tb0 rfl rfl rfl rfl ⟨by decide, by decide⟩ ?_ ?_ ?_) (rsmall (a := 2) (b := 2 * ((Str.length ⟨U.toArray⟩ : Int) + 1)) (c := 2) (by omega) (by omega) (by omega) (by omega) (by omega) (by omega)) (rsize2 (by omega)) (by omega) rfl rfl ?_
    · (first | (refine' Uc.Rs.holds_ok ?jp ?_; (case jp => exact rfl)) | (refine' Uc.Rs.holds_c ?jp ?jc ?_; (case jp => exact rfl); (case jc => first | omega | skip))); exact rfl
    · (first | (refine' Uc.Rs.holds_ok ?jp ?_; (case jp => exact rfl)) | (refine' Uc.Rs.holds_c ?jp ?jc ?_; (case jp => exact rfl); (case jc => first | omega | skip))); exact rfl
    · (first | (refine' Uc.Rs.holds_ok ?jp ?_; (case jp => exact rfl)) | (refine' Uc.Rs.holds_c ?jp ?jc ?_; (case jp => exact rfl); (case jc => first | omega | skip))); exact rfl
    intro l vs cnt hl hlen hvs
    ((repeat (refine Uc.J.nil ?_)); (first | (refine' Uc.J.asg ?ht ?jp ?jx ?js ?_; (case ht => walk_at "h"); (case jp => exact rfl); (case jx => exact rfl); (case js => exact rfl)) | (refine' Uc.J.asg_c ?ht ?jp ?jx ?js ?jc ?_; (case ht => walk_at "h"); (case jp => exact rfl); (case jx => exact rfl); (case js => exact rfl); (case jc => first | omega | skip)))); intro t4
    refine J.forR V.length (σ := (List Int × List Value × Nat × Int) × Tok × Tok × Tok × Tok) (fun c => (l, W.listOf c.1.2.1.toArray c.1.2.2.1) :: news)
     (fun c => [(Str.ofString "a", .str ⟨U.toArray⟩ c.2.1), (Str.ofString "b", .str ⟨V.toArray⟩ c.2.2.1), (Str.ofString "max_cost", .int mx c.2.2.2.1), (Str.ofString "row", .ref l), (Str.ofString "result", .int c.1.2.2.2 c.2.2.2.2)])
     (fun i c => lev3 U V mx = outer U mx (V.drop i) i c.1.1 c.1.2.2.2 ∧ IntsAre c.1.2.1 c.1.1 ∧ c.1.1.length = U.length ∧ c.1.2.1.length = U.length)
     ((row0 U.length, vs, cnt, 0), t1, t2, t3, t4) (range1 (b := (Str.length ⟨V.toArray⟩ : Nat)) tb0 rfl rfl ?hb) (rsmall (by omega) (by omega) (by omega) (by omega) (by omega) (by omega)) (rsize1 (by omega)) hE rfl (fun _ => rfl) ⟨rfl, rfl, rfl, rfl, rfl, trivial⟩ ⟨by rw [lev3, if_neg (by omega)]; rfl, hvs, by simp [row0], hlen⟩ ?turn ?done
    case hb => (first | (refine' Uc.Rs.holds_ok ?jp ?_; (case jp => exact rfl)) | (refine' Uc.Rs.holds_c ?jp ?jc ?_; (case jp => exact rfl); (case jc => first | omega | skip))); exact rfl
    case done =>
      refine fpLLooooRooooR fun row ws cn res t1 t2 t3 t4 => ?_
      intro u hR
      have hT := hR.1
      dsimp only at hT ⊢
      rw [List.drop_length] at hT
      ((repeat (refine Uc.J.nil ?_)); (first | (refine' Uc.J.ret ?ht ?jp ?_; (case ht => walk_at "h"); (case jp => exact rfl)) | (refine' Uc.J.ret_c ?ht ?jp ?jc ?_; (case ht => walk_at "h"); (case jp => exact rfl); (case jc => first | omega | skip))))
      intro t h tk F N
      exact ret ⟨_, int_is (show res = lev3 U V mx from hT.symm)⟩ F N fun p hp => .tail _ hp
    case turn =>
      intro i t
      refine fpLLooooRooooR fun row ws cn res t1 t2 t3 t4 => ?_
      intro u I o hi hR hneI hit C1
      have hT := hR.1
      have hI := hR.2.1
      have hL := hR.2.2.1
      have hw := hR.2.2.2
      clear hR
      dsimp only at hT hI hL hw hneI ⊢
      have hV' : V.drop i = V.getD i 0 :: V.drop (i + 1) := drop_getD hi
      rw [hV'] at hT
      refine J.gen [(Str.ofString "bindex", .int (i : Int) t), (Str.ofString "a", .str ⟨U.toArray⟩ t1), (Str.ofString "b", .str ⟨V.toArray⟩ t2), (Str.ofString "max_cost", .int mx t3), (Str.ofString "row", .ref l)] ⟨congrArg some (int_is (by omega)), rfl, rfl, rfl, rfl, trivial⟩ fun u => ?_
      ((repeat (refine Uc.J.nil ?_)); (first | (refine' Uc.J.asg ?ht ?jp ?jx ?js ?_; (case ht => walk_at "h"); (case jp => exact rfl); (case jx => exact rfl); (case js => exact rfl)) | (refine' Uc.J.asg_c ?ht ?jp ?jx ?js ?jc ?_; (case ht => walk_at "h"); (case jp => exact rfl); (case jx => exact rfl); (case js => exact rfl); (case jc => first | omega | skip)))); intro t5
      ((repeat (refine Uc.J.nil ?_)); (refine' Uc.J.asgD ?ht ?jq ?jx ?jy; (case ht => walk_at "h"); (case jx => exact rfl); (case jy => exact rfl); (first | (refine' Uc.Rs.holds_ok ?jp ?_; (case jp => exact rfl)) | (refine' Uc.Rs.holds_c ?jp ?jc ?_; (case jp => exact rfl); (case jc => first | omega | skip))))); intro t6
      ((repeat (refine Uc.J.nil ?_)); (first | (refine' Uc.J.asg ?ht ?jp ?jx ?js ?_; (case ht => walk_at "h"); (case jp => exact rfl); (case jx => exact rfl); (case js => exact rfl)) | (refine' Uc.J.asg_c ?ht ?jp ?jx ?js ?jc ?_; (case ht => walk_at "h"); (case jp => exact rfl); (case jx => exact rfl); (case js => exact rfl); (case jc => first | omega | skip)))); intro t7
      dsimp only [PV.den]
      rw [item_nat _ i (by rw [lV]; exact hi)]
      refine J.forR U.length (σ := (List Int × List Value × Nat × Int × Int × Int) × Tok × Tok × Tok × Tok × Tok × Tok × Tok) (fun c => (l, W.listOf c.1.2.1.toArray c.1.2.2.1) :: news ++ [(I, o)])
        (fun c => [(Str.ofString "a", .str ⟨U.toArray⟩ c.2.1), (Str.ofString "b", .str ⟨V.toArray⟩ c.2.2.1), (Str.ofString "max_cost", .int mx c.2.2.2.1), (Str.ofString "row", .ref l), (Str.ofString "distance", .int c.1.2.2.2.1 c.2.2.2.2.1),
          (Str.ofString "result", .int c.1.2.2.2.2.1 c.2.2.2.2.2.1), (Str.ofString "minimum", .int c.1.2.2.2.2.2 c.2.2.2.2.2.2.1), (Str.ofString "bchar", .str ⟨#[V.getD i 0]⟩ c.2.2.2.2.2.2.2)])
        (fun j c => inner (V.getD i 0) U row ((i : Int) * 2) ((i : Int) * 2) BIG = (c.1.1.take j ++ (inner (V.getD i 0) (U.drop j) (c.1.1.drop j) c.1.2.2.2.1 c.1.2.2.2.2.1 c.1.2.2.2.2.2).1, (inner (V.getD i 0) (U.drop j) (c.1.1.drop j) c.1.2.2.2.1 c.1.2.2.2.2.1 c.1.2.2.2.2.2).2)
          ∧ IntsAre c.1.2.1 c.1.1 ∧ c.1.1.length = U.length ∧ c.1.2.1.length = U.length)
        ((row, ws, cn, (i : Int) * 2, (i : Int) * 2, BIG), t1, t2, t3, t6, t6, t7, t5) (range1 (b := (Str.length ⟨U.toArray⟩ : Nat)) tb0 rfl rfl ?hb) (rsmall (by omega) (by omega) (by omega) (by omega) (by omega) (by omega)) (rsize1 (by omega)) hE rfl (fun _ => rfl) ⟨rfl, rfl, rfl, rfl, rfl, rfl, rfl, rfl, trivial⟩ ⟨by simp, hI, hL, hw⟩ ?turn ?done
      case hb => (first | (refine' Uc.Rs.holds_ok ?jp ?_; (case jp => exact rfl)) | (refine' Uc.Rs.holds_c ?jp ?jc ?_; (case jp => exact rfl); (case jc => first | omega | skip))); exact rfl
      case done =>
        refine fpLLooooooRoooooooR fun row' ws' cn' d' res' mn' t1 t2 t3 t4 t5 t6 t7 => ?_
        intro u hR
        have hJ := hR.1
        have hI' := hR.2.1
        have hL' := hR.2.2.1
        have hw' := hR.2.2.2
        clear hR
        dsimp only at hJ hI' hL' hw' ⊢
        rw [List.drop_length, List.take_of_length_le (Nat.le_of_eq hL'), List.drop_of_length_le (Nat.le_of_eq hL')] at hJ
        rw [outer_turn hJ] at hT
        ((repeat (refine Uc.J.nil ?_)); (first | (refine' Uc.J.ite ?ht ?jp ?_ ?_; (case ht => walk_at "h"); (case jp => exact rfl)) | (refine' Uc.J.ite_c ?ht ?jp ?jc ?_ ?_; (case ht => walk_at "h"); (case jp => exact rfl); (case jc => first | omega | skip)))) <;> intro hm
        · ((repeat (refine Uc.J.nil ?_)); (first | (refine' Uc.J.ret ?ht ?jp ?_; (case ht => walk_at "h"); (case jp => exact rfl)) | (refine' Uc.J.ret_c ?ht ?jp ?jc ?_; (case ht => walk_at "h"); (case jp => exact rfl); (case jc => first | omega | skip))))
          intro t h tk F N
          rw [if_pos hm] at hT
          exact C.post_ret (ret ⟨_, int_is hT.symm⟩ F N fun p hp => .tail _ (List.mem_append_left _ hp)) _
        · rw [if_neg hm] at hT
          (repeat (refine Uc.J.nil ?_))
          exact J.tn ((row', ws', cn', res'), _, _, _, _) ⟨rfl, rfl, rfl, rfl, rfl, trivial⟩ ⟨hT, hI', hL', hw'⟩ (by intro p hp; left; simp only [List.mem_cons, List.map_cons] at hp ⊢; rcases hp with rfl | hp <;> first | exact .inl rfl | exact .inr (List.mem_map_of_mem hp))
      case turn =>
        intro j t
        refine fpLLooooooRoooooooR fun row' ws' cn' d' res' mn' t1 t2 t3 t4 t5 t6 t7 => ?_
        intro u I' o' hj hR hneI' hit' C2
        have hJ := hR.1
        have hI' := hR.2.1
        have hL' := hR.2.2.1
        have hw' := hR.2.2.2
        clear hR
        dsimp only at hJ hI' hL' hw' hneI' ⊢
        have l1 : Str.length ⟨#[V.getD i 0]⟩ = 1 := rfl
        have hcj : Txt.item ⟨U.toArray⟩ (j : Int) = ⟨#[U.getD j 0]⟩ := item_nat _ j (by rw [lU]; exact hj)
        have l2 : (Txt.item ⟨U.toArray⟩ (j : Int)).length = 1 := by rw [hcj]; rfl
        refine J.gen [(Str.ofString "index", .int (j : Int) t), (Str.ofString "a", .str ⟨U.toArray⟩ t1), (Str.ofString "b", .str ⟨V.toArray⟩ t2), (Str.ofString "max_cost", .int mx t3), (Str.ofString "row", .ref l), (Str.ofString "distance", .int d' t4),
          (Str.ofString "result", .int res' t5), (Str.ofString "minimum", .int mn' t6), (Str.ofString "bchar", .str ⟨#[V.getD i 0]⟩ t7)] ⟨congrArg some (int_is (by omega)), rfl, rfl, rfl, rfl, rfl, rfl, rfl, rfl, trivial⟩ fun u => ?_
        refine' J.tab (TbOk.addF (TbOk.addI tb0 (x := Str.ofString "row") (.loc ?hm rfl rfl) ?hmem hI') hF) fun ht => ?_
        case hm => exact rfl
        case hmem => exact .inl ⟨_, .head _⟩
        ((repeat (refine Uc.J.nil ?_)); (first | (refine' Uc.J.asg ?ht ?jp ?jx ?js ?_; (case ht => walk_at "h"); (case jp => exact rfl); (case jx => exact rfl); (case js => exact rfl)) | (refine' Uc.J.asg_c ?ht ?jp ?jx ?js ?jc ?_; (case ht => walk_at "h"); (case jp => exact rfl); (case jx => exact rfl); (case js => exact rfl); (case jc => first | omega | skip)))); intro t8
        ((repeat (refine Uc.J.nil ?_)); (first | (refine' Uc.J.asg ?ht ?jp ?jx ?js ?_; (case ht => walk_at "h"); (case jp => exact rfl); (case jx => exact rfl); (case js => exact rfl)) | (refine' Uc.J.asg_c ?ht ?jp ?jx ?js ?jc ?_; (case ht => walk_at "h"); (case jp => exact rfl); (case jx => exact rfl); (case js => exact rfl); (case jc => first | omega | skip)))); intro t9
        ((repeat (refine Uc.J.nil ?_)); (first | (refine' Uc.J.asg ?ht ?jp ?jx ?js ?_; (case ht => walk_at "h"); (case jp => exact rfl); (case jx => exact rfl); (case js => exact rfl)) | (refine' Uc.J.asg_c ?ht ?jp ?jx ?js ?jc ?_; (case ht => walk_at "h"); (case jp => exact rfl); (case jx => exact rfl); (case js => exact rfl); (case jc => first | omega | skip)))); intro t10
        ((repeat (refine Uc.J.nil ?_)); (first | (refine' Uc.J.asg ?ht ?jp ?jx ?js ?_; (case ht => walk_at "h"); (case jp => exact rfl); (case jx => exact rfl); (case js => exact rfl)) | (refine' Uc.J.asg_c ?ht ?jp ?jx ?js ?jc ?_; (case ht => walk_at "h"); (case jp => exact rfl); (case jx => exact rfl); (case js => exact rfl); (case jc => first | omega | skip)))); intro t11
        dsimp only [PV.den]
        obtain ⟨ρ, hρ⟩ : ∃ ρ, ρ = min (min res' (row'.getD j 0) + 2) (d' + cst (V.getD i 0) (U.getD j 0)) := ⟨_, rfl⟩
        have hK : ∀ mn, mn = (if ρ < mn' then ρ else mn') → inner (V.getD i 0) U row ((i : Int) * 2) ((i : Int) * 2) BIG = ((row'.set j ρ).take (j + 1) ++ (inner (V.getD i 0) (U.drop (j + 1)) ((row'.set j ρ).drop (j + 1)) (row'.getD j 0) ρ mn).1, (inner (V.getD i 0) (U.drop (j + 1)) ((row'.set j ρ).drop (j + 1)) (row'.getD j 0) ρ mn).2) := by
          intro mn e
          subst e
          exact inner_turn hj (by rw [hL']; exact hj) hρ hJ
        have hnl : ∀ p ∈ news ++ [(I, o)] ++ [(I', o')], p.1 ≠ l := by
          intro p hp
          rcases List.mem_append.mp hp with hp | hp
          · rcases List.mem_append.mp hp with hp | hp
            · exact Nat.ne_of_lt (hl p hp)
            · rw [List.mem_singleton.mp hp]; exact (hneI _ (.head _)).symm
          · rw [List.mem_singleton.mp hp]; exact (hneI' _ (.head _)).symm
        have vρ : min (min res' (row'.getD (Int.toNat j) 0) + 2) (d' + subCost ⟨#[V.getD i 0]⟩ (Txt.item ⟨U.toArray⟩ (j : Int))) = ρ := by rw [hcj, hρ]; rfl
        rw [vρ]
        refine J.seti (nw := news ++ [(I, o)] ++ [(I', o')]) (k := j) (v := ρ) tb0 ?he rfl ?hi ⟨by omega, by omega⟩ hnl rfl fun t12 => ?_
        case he => (first | (refine' Uc.Rs.holds_ok ?jp ?_; (case jp => exact rfl)) | (refine' Uc.Rs.holds_c ?jp ?jc ?_; (case jp => exact rfl); (case jc => first | omega | skip))); exact rfl
        case hi => (first | (refine' Uc.Rs.holds_ok ?jp ?_; (case jp => exact rfl)) | (refine' Uc.Rs.holds_c ?jp ?jc ?_; (case jp => exact rfl); (case jc => first | omega | skip))); exact rfl
        have fin2 : ∀ (m' : Str → Option Value) mn t, (if ρ < mn' then ρ else mn') = mn → Has m' [(Str.ofString "a", .str ⟨U.toArray⟩ t1), (Str.ofString "b", .str ⟨V.toArray⟩ t2), (Str.ofString "max_cost", .int mx t3), (Str.ofString "row", .ref l), (Str.ofString "distance", .int (row'.getD j 0) t9),
          (Str.ofString "result", .int ρ t11), (Str.ofString "minimum", .int mn t), (Str.ofString "bchar", .str ⟨#[V.getD i 0]⟩ t7)] → J C2 m' ((l, W.listOf (ws'.set j (.int ρ t12)).toArray cn') :: (news ++ [(I, o)] ++ [(I', o')])) [] [] := fun m' mn t e hh =>
          J.tn ((row'.set j ρ, _, _, row'.getD j 0, ρ, mn), t1, t2, t3, _, _, _, _) hh ⟨hK _ e.symm, intsAre_set _ _ hI' j, (List.length_set ..).trans hL', (List.length_set ..).trans hw'⟩ (by first | (intro p hp; left; rcases List.mem_cons.mp hp with rfl | hp <;> first | exact List.mem_map.mpr ⟨_, .head _, rfl⟩ | exact List.mem_map.mpr ⟨_, .tail _ hp, rfl⟩) | (intro p hp; left; simp only [List.mem_cons, List.map_cons] at hp ⊢; rcases hp with rfl | hp <;> first | exact .inl rfl | exact .inr (List.mem_map_of_mem hp)))
        refine J.gen [(Str.ofString "a", .str ⟨U.toArray⟩ t1), (Str.ofString "b", .str ⟨V.toArray⟩ t2), (Str.ofString "max_cost", .int mx t3), (Str.ofString "row", .ref l), (Str.ofString "distance", .int (row'.getD j 0) t9),
          (Str.ofString "result", .int ρ t11), (Str.ofString "minimum", .int mn' t6), (Str.ofString "bchar", .str ⟨#[V.getD i 0]⟩ t7)] ⟨rfl, rfl, rfl, rfl, rfl, rfl, rfl, rfl, trivial⟩ fun u => ?_
        ((repeat (refine Uc.J.nil ?_)); (first | (refine' Uc.J.ite ?ht ?jp ?_ ?_; (case ht => walk_at "h"); (case jp => exact rfl)) | (refine' Uc.J.ite_c ?ht ?jp ?jc ?_ ?_; (case ht => walk_at "h"); (case jp => exact rfl); (case jc => first | omega | skip)))) <;> intro hm
        · ((repeat (refine Uc.J.nil ?_)); (first | (refine' Uc.J.asg ?ht ?jp ?jx ?js ?_; (case ht => walk_at "h"); (case jp => exact rfl); (case jx => exact rfl); (case js => exact rfl)) | (refine' Uc.J.asg_c ?ht ?jp ?jx ?js ?jc ?_; (case ht => walk_at "h"); (case jp => exact rfl); (case jx => exact rfl); (case js => exact rfl); (case jc => first | omega | skip)))); intro t13
          (repeat (refine Uc.J.nil ?_))
          exact fin2 _ ρ t13 (if_pos hm) ⟨rfl, rfl, rfl, rfl, rfl, rfl, rfl, rfl, trivial⟩
        · (repeat (refine Uc.J.nil ?_))
          exact fin2 _ mn' t6 (if_neg hm) ⟨rfl, rfl, rfl, rfl, rfl, rfl, rfl, rfl, trivial⟩
  ((repeat (refine Uc.J.nil ?_)); (first | (refine' Uc.J.ite ?ht ?jp ?_ ?_; (case ht => walk_at "h"); (case jp => exact rfl)) | (refine' Uc.J.ite_c ?ht ?jp ?jc ?_ ?_; (case ht => walk_at "h"); (case jp => exact rfl); (case jc => first | omega | skip)))) <;> intro hlt
  · ((repeat (refine Uc.J.nil ?_)); (refine' Uc.J.asg2 ?ht rfl rfl ?jw ?jx ?jy ?_; (case ht => walk_at "h"); (case jw => exact rfl); (case jx => exact rfl); (case jy => exact rfl); (first | (refine' Uc.Rs.holds_ok ?jp ?_; (case jp => exact rfl)) | (refine' Uc.Rs.holds_c ?jp ?jc ?_; (case jp => exact rfl); (case jc => first | omega | skip))); (first | (refine' Uc.Rs.holds_ok ?jp ?_; (case jp => exact rfl)) | (refine' Uc.Rs.holds_c ?jp ?jc ?_; (case jp => exact rfl); (case jc => first | omega | skip)))))
    intro t6 t7
    (repeat (refine Uc.J.nil ?_))
    refine J.gen [(Str.ofString "a", .str ⟨Y.toArray⟩ t6), (Str.ofString "b", .str ⟨X.toArray⟩ t7), (Str.ofString "max_cost", .int mx tm)] ⟨rfl, rfl, rfl, trivial⟩ fun u => ?_
    exact fin Y X _ _ _ u (by rw [lev2, if_neg z0, if_neg z40, if_pos (by omega)]) (by omega) (by omega) (by omega)
  (repeat (refine Uc.J.nil ?_))
  exact fin X Y _ _ _ u (by rw [lev2, if_neg z0, if_neg z40, if_neg (by omega)]) (by omega) (by omega) (by omega)
noncomputable def levR3 (a b : Str) (mx : Int) : List PV → Rs
  | [] => .cond (a.length ≤ 1000 ∧ b.length ≤ 1000 ∧ -1000 ≤ mx ∧ mx ≤ 100000) (.int (levS a b mx))
  | _ :: _ => .bad
noncomputable def levR2 (a b : Str) : List PV → Rs
  | .int mx :: r => levR3 a b mx r
  | _ => .bad
noncomputable def levR1 (a : Str) : List PV → Rs
  | .str b :: r => levR2 a b r
  | _ => .bad
noncomputable def levR : List PV → Rs
  | .str a :: r => levR1 a r
  | _ => .bad
theorem lev_fn {C : Cx} {pre : Heap → Prop} {d u : Nat} (ok : CxOk C p loose mean mg mb pre d u) (hx : C.env.kindOf (Str.ofString "_levenshtein_distance") = some .globalImplicit) (hw : C.w = w) (hd : 8 ≤ d := by decide) (hu : 30 ≤ u := by decide) : FnOk C (Str.ofString "_levenshtein_distance") levR := by
  refine FnOk.con ok rfl keep_lev hx rfl ?_
  subst hw
  intro m nw ps vs Q hv hr
  cases hv with
  | nil => exact hr.elim
  | @cons p1 v1 ps1 vs1 h1 r1 =>
    cases r1 with
    | nil => cases p1 <;> exact hr.elim
    | @cons p2 v2 ps2 vs2 h2 r2 =>
      cases r2 with
      | nil => cases p1 <;> first | exact hr.elim | (cases p2 <;> exact hr.elim)
      | @cons p3 v3 ps3 vs3 h3 r3 =>
        obtain ⟨u1, rfl⟩ := h1
        obtain ⟨u2, rfl⟩ := h2
        obtain ⟨u3, rfl⟩ := h3
        cases p1 <;> try exact hr.elim
        cases p2 <;> try exact hr.elim
        cases p3 <;> try exact hr.elim
        cases r3 with
        | cons _ _ => exact hr.elim
        | nil => exact ok.call (lev C.w p loose mean mg mb nw _ _ _ _ _ _ hr.1.1 hr.1.2.1 hr.1.2.2.1 hr.1.2.2.2) (fun v nw' ⟨e1, t, e2⟩ => by subst e1 e2; exact hr.2 t) (fun _ _ => trivial) hd hu
end
end Uc
end
section
namespace Uc
theorem foldl_rep (c : Nat) : ∀ (n : Nat) (acc : Array Nat), (List.replicate n #[c]).foldl (· ++ ·) acc = acc ++ (List.replicate n c).toArray
  | 0, acc => by simp
  | n + 1, acc => by
    rw [List.replicate_succ, List.foldl_cons, foldl_rep c n, List.replicate_succ]
    apply Array.toList_inj.mp
    simp
theorem mul_rep (c n : Nat) : Txt.mul (⟨#[c]⟩ : Str) (n : Int) = ⟨(List.replicate n c).toArray⟩ := by
  unfold Txt.mul
  match n with
  | 0 => rfl
  | 1 => rfl
  | n + 2 =>
    rw [if_neg (by (walk_at "O"))]
    rw [if_neg (by
      have : (((n + 2 : Nat) : Int) == 1) = false := by simp; (walk_at "O")
      rw [this]; simp [Str.length])]
    rw [foldl_rep, Int.toNat_natCast]
    simp
theorem spc_is : Str.ofString " " = (⟨#[32]⟩ : Str) := by rfl
theorem tb_is : Str.ofString "\t" = (⟨#[9]⟩ : Str) := by rfl
noncomputable def leadOf (c s d : Nat) : List Nat := let t := c / s; let b := if t > 0 then d % (s * t) else 0; List.replicate b 32 ++ List.replicate (t - b / s) 9 ++ List.replicate (c % s) 32
section
variable (w : World) (p : Program) (loose : List Str) (mean : ExcName → Option Value) (mg mb : Str → Option Value)
theorem lead_c (news : List (Addr × Obj)) (c z d : Nat) (tc tz td : Tok) (hc : c ≤ 20) (h1 : 1 ≤ z) (h2 : z ≤ 20) (hd : d ≤ 10000000) :
    Con w p loose mean mg mb 231 12 40 [.int (c : Int) tc, .int (z : Int) tz, .int (d : Int) td] news (fun _ => True) (fun v n' => n' = news ∧ ∃ t, v = .str ⟨(leadOf c z d).toArray⟩ t) := by
  dsimp only [Con, Pm]
  k_fill
  intros
  rename_i hret
  refine wpAny_call ?_
  k_dflt cell_enter
  rename Fr _ _ _ _ => F0
  rename News _ _ _ _ => N0
  refine Uc.J.start (gl_ok (by assumption) (by assumption)) F0 N0 rfl rfl ?_
  clear F0 N0
  rename_i qk ek
  intro C
  have ret : ∀ {m : Str → Option Value} {v : Value} {h : Heap} {tk : Nat} {nw : Led}, (fun v n' => n' = news ∧ ∃ t, v = .str ⟨(leadOf c z d).toArray⟩ t) v nw → Fr C.h₀ C.L h m → News C.h₀ C.L h nw → C.Q (.ret v) (C.sg h tk) := by
    intro m v h tk nw hv F N
    dsimp only [C, qk] at F N ⊢
    exact leaveK_ F N fun kF kN => hret _ _ _ _ hv kF kN
  have hE : PassesOwn C.M C.A C.env C.E := PassesOwn.leaving
  have e1 : (c : Int).fdiv (z : Int) = ((c / z : Nat) : Int) := fdiv_nat c z
  have e1b : c / z ≤ 20 := Nat.le_trans (Nat.div_le_self _ _) hc
  have hzz : z * (c / z) ≤ c := Nat.mul_div_le c z
  obtain ⟨b, hb, hbz⟩ : ∃ b, b = (if c / z > 0 then d % (z * (c / z)) else 0) ∧ b ≤ z * (c / z) := by
    refine ⟨_, rfl, ?_⟩
    split
    · rename_i h
      exact Nat.le_of_lt (Nat.mod_lt _ (Nat.mul_pos h1 h))
    · exact Nat.zero_le _
  have hbs : b / z ≤ c / z := Nat.div_le_of_le_mul (Nat.le_trans hbz (Nat.le_of_eq (Nat.mul_comm _ _)) |> fun q => by rw [Nat.mul_comm]; exact q)
  have e3 : ((c / z : Nat) : Int) - (b : Int).fdiv (z : Int) = ((c / z - b / z : Nat) : Int) := by
    rw [fdiv_nat]; exact (Int.ofNat_sub hbs).symm
  have e4 : (c : Int).fmod (z : Int) = ((c % z : Nat) : Int) := fmod_nat c z
  have hfin : leadOf c z d = List.replicate b 32 ++ List.replicate (c / z - b / z) 9 ++ List.replicate (c % z) 32 := by rw [hb]; rfl
  have b20 : b ≤ 20 := Nat.le_trans hbz (Nat.le_trans hzz hc)
  have q20 : c / z - b / z ≤ 20 := Nat.le_trans (Nat.sub_le _ _) e1b
  have r20 : c % z ≤ 20 := Nat.le_trans (Nat.mod_le _ _) hc
  have zz : 1 ≤ (z : Int) ∧ (z : Int) ≤ 1000000000 := by omega
  refine J.gen [(Str.ofString "column", .int (c : Int) tc), (Str.ofString "size", .int (z : Int) tz), (Str.ofString "drawn", .int (d : Int) td)] ⟨rfl, rfl, rfl, trivial⟩ fun u => ?_
  refine' J.asg_c tb0 ?jp rfl ?js zz fun t1 => ?_
  case jp => exact rfl
  case js => exact rfl
  dsimp only [PV.den]
  rw [e1]
  have e2 : 0 < ((c / z : Nat) : Int) → 1 ≤ (z : Int) * ((c / z : Nat) : Int) ∧ (z : Int) * ((c / z : Nat) : Int) ≤ 1000000000 := fun h => by
    have h' : 0 < c / z := by omega
    have h3 : 1 ≤ z * (c / z) := Nat.mul_pos h1 h'
    have h4 : z * (c / z) ≤ 20 := Nat.le_trans hzz hc
    rw [← Int.natCast_mul]
    omega
  refine' J.asg_c tb0 ?jp rfl ?js ?jc fun t2 => ?_
  case jp => exact rfl
  case js => exact rfl
  case jc => exact fun h => ⟨⟨Int.le_trans (by decide) zz.1, zz.2⟩, e2 h⟩
  dsimp only [PV.den]
  have e5 : (@ite Int (0 < ((c / z : Nat) : Int)) (Classical.propDecidable _) ((d : Int).fmod ((z : Int) * ((c / z : Nat) : Int))) 0) = (b : Int) := by
    rw [hb]
    by_cases h : 0 < c / z
    · rw [if_pos (by omega), if_pos h, ← Int.natCast_mul]
      exact fmod_nat d (z * (c / z))
    · rw [if_neg (by omega), if_neg h]
      rfl
  rw [e5]
  have m1 := mul_rep 32 b
  have m2 := mul_rep 9 (c / z - b / z)
  have m3 := mul_rep 32 (c % z)
  rw [← spc_is] at m1 m3
  rw [← tb_is] at m2
  refine' J.ret_c tb0 ?jp ?jc ?_
  case jp => exact rfl
  case jc =>
    have k1 : (Str.ofString " ").length ≤ 16 := by decide
    have k2 : (Str.ofString "\t").length ≤ 16 := by decide
    have z1 : (b : Int) ≤ 1048576 := Int.le_trans (Int.ofNat_le.mpr b20) (by decide)
    have z2 : ((c / z - b / z : Nat) : Int) ≤ 1048576 := Int.le_trans (Int.ofNat_le.mpr q20) (by decide)
    have z3 : ((c % z : Nat) : Int) ≤ 1048576 := Int.le_trans (Int.ofNat_le.mpr r20) (by decide)
    rw [e3, e4, m1, m2, m3]
    refine ⟨⟨⟨⟨⟨k1, Int.natCast_nonneg _, z1⟩, zz, k2, Int.natCast_nonneg _, z2⟩, ?_⟩, zz, k1, Int.natCast_nonneg _, z3⟩, ?_⟩
    · rw [str_len, str_len, List.length_replicate, List.length_replicate]
      exact Nat.le_trans (Nat.add_le_add b20 q20) (by decide)
    · rw [app2, str_len, str_len, List.length_append, List.length_replicate, List.length_replicate, List.length_replicate]
      exact Nat.le_trans (Nat.add_le_add (Nat.add_le_add b20 q20) r20) (by decide)
  rw [e3, e4, m1, m2, m3, app2, app2, ← hfin]
  intro t h tk F N
  exact ret ⟨rfl, _, rfl⟩ F N
noncomputable def leadR3 (c z d : Int) : List PV → Rs
  | [] => .cond ((0 ≤ c ∧ c ≤ 20) ∧ (1 ≤ z ∧ z ≤ 20) ∧ 0 ≤ d ∧ d ≤ 10000000) (.str ⟨(leadOf c.toNat z.toNat d.toNat).toArray⟩)
  | _ :: _ => .bad
noncomputable def leadR2 (c z : Int) : List PV → Rs
  | .int d :: r => leadR3 c z d r
  | _ => .bad
noncomputable def leadR1 (c : Int) : List PV → Rs
  | .int z :: r => leadR2 c z r
  | _ => .bad
noncomputable def leadR : List PV → Rs
  | .int c :: r => leadR1 c r
  | _ => .bad
theorem lead_fn {C : Cx} {pre : Heap → Prop} {d u : Nat} (ok : CxOk C p loose mean mg mb pre d u) (hx : C.env.kindOf (Str.ofString "_law_lead") = some .globalImplicit) (hw : C.w = w) (hd : 12 ≤ d := by decide) (hu : 40 ≤ u := by decide) : FnOk C (Str.ofString "_law_lead") leadR := by
  refine FnOk.con ok rfl keep_lead hx rfl ?_
  subst hw
  intro m nw ps vs Q hv hr
  cases hv with
  | nil => exact hr.elim
  | @cons p1 v1 ps1 vs1 h1 r1 =>
    cases r1 with
    | nil => cases p1 <;> exact hr.elim
    | @cons p2 v2 ps2 vs2 h2 r2 =>
      cases r2 with
      | nil => cases p1 <;> first | exact hr.elim | (cases p2 <;> exact hr.elim)
      | @cons p3 v3 ps3 vs3 h3 r3 =>
        obtain ⟨u1, rfl⟩ := h1
        obtain ⟨u2, rfl⟩ := h2
        obtain ⟨u3, rfl⟩ := h3
        cases p1 <;> try exact hr.elim
        cases p2 <;> try exact hr.elim
        cases p3 <;> try exact hr.elim
        cases r3 with
        | cons _ _ => exact hr.elim
        | nil =>
          rename_i c z e
          obtain ⟨⟨⟨c0, c1⟩, ⟨z0, z1⟩, e0, e1⟩, hq⟩ := hr
          obtain ⟨c, rfl⟩ := Int.eq_ofNat_of_zero_le c0
          obtain ⟨z, rfl⟩ := Int.eq_ofNat_of_zero_le (Int.le_trans (by decide) z0)
          obtain ⟨e, rfl⟩ := Int.eq_ofNat_of_zero_le e0
          exact ok.call (lead_c C.w p loose mean mg mb nw c z e _ _ _ (Int.ofNat_le.mp c1) (Int.ofNat_le.mp z0) (Int.ofNat_le.mp z1) (Int.ofNat_le.mp e1)) (fun v nw' ⟨e1, t, e2⟩ => by subst e1 e2; exact hq t) (fun _ _ => trivial) hd hu
end
end Uc
end
section
namespace Uc
noncomputable def ltrs : List Nat := [102, 105, 70, 73]
noncomputable def names1 : List (List Nat) := ltrs.map fun a => [a]
noncomputable def names2 : List (List Nat) := ltrs.flatMap fun a => names1.map fun b => a :: b
noncomputable def names3 : List (List Nat) := ltrs.flatMap fun a => names2.map fun b => a :: b
noncomputable def names84 : List (List Nat) := names1 ++ names2 ++ names3
noncomputable def outerM (xs : List Nat) : List Nat → Nat → List Int → Int → Int → Int × Int
  | [], _, _, res, mm => (res, mm)
  | c :: cs, bi, row, _, mm =>
    let t := inner c xs row ((bi : Int) * 2) ((bi : Int) * 2) BIG
    outerM xs cs (bi + 1) t.1 t.2.1 (max mm t.2.2)
noncomputable def lev3M (a b : List Nat) : Int × Int := outerM a b 0 (row0 a.length) 0 (((b.length : Int) - a.length) * 2)
noncomputable def lev2M (a b : List Nat) : Int × Int :=
  if a.length = 0 ∨ b.length = 0 then (2 * ((a.length : Int) + b.length), -1000)
  else if b.length < a.length then lev3M b a else lev3M a b
noncomputable def levM (a b : List Nat) : Int × Int :=
  if a = b then (0, -1000) else
  let p := sPre a b
  let q := sPre p.1.reverse p.2.reverse
  lev2M q.1.reverse q.2.reverse
theorem outerM_mm (xs : List Nat) : ∀ (cs : List Nat) (bi : Nat) (row : List Int) (res mm : Int), mm ≤ (outerM xs cs bi row res mm).2
  | [], _, _, _, _ => Int.le_refl _
  | c :: cs, bi, row, _, mm => by
    have := outerM_mm xs cs (bi + 1) (inner c xs row ((bi : Int) * 2) ((bi : Int) * 2) BIG).1 (inner c xs row ((bi : Int) * 2) ((bi : Int) * 2) BIG).2.1 (max mm (inner c xs row ((bi : Int) * 2) ((bi : Int) * 2) BIG).2.2)
    show mm ≤ (outerM xs cs (bi + 1) _ _ _).2
    (walk_at "O")
theorem outer_M (xs : List Nat) (mx : Int) : ∀ (cs : List Nat) (bi : Nat) (row : List Int) (res mm : Int), mm ≤ mx → outer xs mx cs bi row res = if (outerM xs cs bi row res mm).2 ≤ mx then (outerM xs cs bi row res mm).1 else mx + 1
  | [], _, _, _, mm, h => by rw [if_pos (show (outerM xs [] _ _ _ mm).2 ≤ mx from h)]; rfl
  | c :: cs, bi, row, r0, mm, h => by
    show (if mx < (inner c xs row ((bi : Int) * 2) ((bi : Int) * 2) BIG).2.2 then mx + 1 else outer xs mx cs (bi + 1) _ _) = if (outerM xs cs (bi + 1) _ _ _).2 ≤ mx then (outerM xs cs (bi + 1) _ _ _).1 else mx + 1
    by_cases hc : mx < (inner c xs row ((bi : Int) * 2) ((bi : Int) * 2) BIG).2.2
    · rw [if_pos hc, if_neg]
      have := outerM_mm xs cs (bi + 1) (inner c xs row ((bi : Int) * 2) ((bi : Int) * 2) BIG).1 (inner c xs row ((bi : Int) * 2) ((bi : Int) * 2) BIG).2.1 (max mm (inner c xs row ((bi : Int) * 2) ((bi : Int) * 2) BIG).2.2)
      (walk_at "O")
    · rw [if_neg hc]
      exact outer_M xs mx cs (bi + 1) _ _ _ (by (walk_at "O"))
theorem lev3_M (a b : List Nat) (mx : Int) : lev3 a b mx = if (lev3M a b).2 ≤ mx then (lev3M a b).1 else mx + 1 := by
  unfold lev3 lev3M
  by_cases h : mx < ((b.length : Int) - a.length) * 2
  · rw [if_pos h, if_neg]
    have := outerM_mm a b 0 (row0 a.length) 0 (((b.length : Int) - a.length) * 2)
    (walk_at "O")
  · rw [if_neg h]
    exact outer_M a mx b 0 _ _ _ (by (walk_at "O"))
theorem sPre_len : ∀ (a b : List Nat), (sPre a b).1.length ≤ a.length ∧ (sPre a b).2.length ≤ b.length := by
  intro a
  induction a with
  | nil => intro b; cases b <;> exact ⟨Nat.le_refl _, Nat.le_refl _⟩
  | cons c a ih =>
    intro b
    cases b with
    | nil => exact ⟨Nat.le_refl _, Nat.le_refl _⟩
    | cons d b =>
      have := ih b
      unfold sPre
      split
      · simp only [List.length_cons]; (walk_at "O")
      · exact ⟨Nat.le_refl _, Nat.le_refl _⟩
theorem levL_M (a b : List Nat) (mx : Int) (ha : a.length ≤ 40) (hb : b.length ≤ 40) (hm : -1000 ≤ mx) : levL a b mx = if (levM a b).2 ≤ mx then (levM a b).1 else mx + 1 := by
  unfold levL levM
  by_cases h : a = b
  · rw [if_pos h, if_pos h, if_pos hm]
  · rw [if_neg h, if_neg h]
    have h1 := sPre_len a b
    have h2 := sPre_len (sPre a b).1.reverse (sPre a b).2.reverse
    simp only [List.length_reverse] at h2
    (try dsimp only)
    unfold lev2 lev2M
    simp only [List.length_reverse]
    by_cases h3 : (sPre (sPre a b).1.reverse (sPre a b).2.reverse).1.length = 0 ∨ (sPre (sPre a b).1.reverse (sPre a b).2.reverse).2.length = 0
    · rw [if_pos h3, if_pos h3, if_pos hm]
    · rw [if_neg h3, if_neg h3, if_neg (by (walk_at "O"))]
      split
      · exact lev3_M _ _ _
      · exact lev3_M _ _ _
noncomputable def lfOk (a b : List Nat) : Bool := let f := farOf a b; let r := levM a b; r.1 == f && decide (r.2 ≤ f) && decide (0 ≤ f) && decide (f ≤ 6)
theorem lf_all : names84.all (fun a => names84.all (lfOk a)) = true := by decide +kernel
end Uc
end
section
namespace Uc
noncomputable def ws0 : WS := ⟨[], 0, 0, 0⟩
structure NameOk (nm : List Nat) : Prop where
  len : 1 ≤ nm.length ∧ nm.length ≤ 3
  chr : ∀ c ∈ nm, c = 102 ∨ c = 105 ∨ c = 70 ∨ c = 73
theorem wsGo_app : ∀ (l : List Nat) (st : WS) {nm : List Nat}, NameOk nm → wsGo (l ++ nm) st = if (∀ c ∈ l, c = 32 ∨ c = 9) then wsGo l st else wsGo (l ++ nm) st
  | l, st, nm, h => by
    split
    · rename_i hl
      induction l generalizing st with
      | nil =>
        obtain ⟨c, r, rfl⟩ : ∃ c r, nm = c :: r := by
          cases nm with
          | nil => exact absurd h.len.1 (by decide)
          | cons c r => exact ⟨c, r, rfl⟩
        have hc := h.chr c (.head _)
        show wsGo (c :: r) st = st
        rw [wsGo, if_neg (by (walk_at "O")), if_neg (by (walk_at "O"))]
      | cons c l ih =>
        rw [List.cons_append, wsGo, wsGo]
        have h2 : ∀ d ∈ l, d = 32 ∨ d = 9 := fun d hd => hl d (.tail _ hd)
        by_cases h1 : c = 32
        · rw [if_pos h1, if_pos h1, ih _ h2]
        · rw [if_neg h1, if_neg h1]
          by_cases h3 : c = 9
          · rw [if_pos h3, if_pos h3, ih _ h2]
          · exact absurd (hl c (.head _)) (by (walk_at "O"))
    · rfl
theorem wsOf_app {l nm : List Nat} (h : NameOk nm) (hl : ∀ c ∈ l, c = 32 ∨ c = 9) : wsOf (mkS (l ++ nm)) = wsGo l ws0 := by
  unfold wsOf
  show wsGo (l ++ nm) ws0 = _
  rw [wsGo_app l ws0 h, if_pos hl]
noncomputable def leadB (c s b : Nat) : List Nat := List.replicate b 32 ++ List.replicate (c / s - b / s) 9 ++ List.replicate (c % s) 32
theorem leadB_ok : ((List.range 3).all fun s => (List.range 8).all fun c => (List.range 8).all fun b => !(b == 0 || decide (b < (s + 2) * (c / (s + 2)))) || ((wsGo (leadB c (s + 2) b) ws0).n == (leadB c (s + 2) b).length && decide (colOf (wsGo (leadB c (s + 2) b) ws0) (s + 2) = (c : Int)) && decide ((leadB c (s + 2) b).length ≤ 14))) = true := by decide +kernel
noncomputable def WW (sz : Nat) (v : Value) (c : Nat) (nm : List Nat) : Prop :=
  ∃ lead t, v = .str (mkS (lead ++ nm)) t ∧ (wsOf (mkS (lead ++ nm))).n = lead.length ∧ colOf (wsOf (mkS (lead ++ nm))) sz = (c : Int) ∧ lead.length ≤ 14
theorem ww_new {nm : List Nat} (h : NameOk nm) (sz : Nat) (t : Tok) : WW sz (.str (mkS nm) t) 0 nm := by
  refine ⟨[], t, rfl, ?_, ?_, by decide⟩
  · rw [wsOf_app (l := []) h (fun c hc => nomatch hc)]; rfl
  · rw [wsOf_app (l := []) h (fun c hc => nomatch hc)]
    show ((0 : Nat) : Int) + (sz : Int) * (ilSum [] sz (0 - sz) + ((0 : Nat) : Int)) = ((0 : Nat) : Int)
    rw [Nat.zero_sub]
    simp [ilSum]
theorem lead_is (c s d : Nat) : ∃ b, leadOf c s d = leadB c s b ∧ (b = 0 ∨ b < s * (c / s)) := by
  unfold leadOf leadB
  by_cases h : c / s > 0
  · refine ⟨d % (s * (c / s)), ?_, ?_⟩
    · simp only [h, if_true]
    · by_cases hs : 0 < s * (c / s)
      · exact .inr (Nat.mod_lt _ hs)
      · have : s = 0 := by
          rcases Nat.eq_zero_or_pos s with e | e
          · exact e
          · exact absurd (Nat.mul_pos e h) hs
        subst this
        simp at h
  · exact ⟨0, by simp only [h, if_false], .inl rfl⟩
theorem ww_lead {nm : List Nat} (h : NameOk nm) {sz c : Nat} (h2 : 2 ≤ sz) (h4 : sz ≤ 4) (hc : c ≤ 7) (d : Nat) (t : Tok) : WW sz (.str (mkS (leadOf c sz d ++ nm)) t) c nm := by
  obtain ⟨b, e, hb⟩ := lead_is c sz d
  rw [e]
  obtain ⟨s, rfl⟩ : ∃ s, sz = s + 2 := ⟨sz - 2, by (walk_at "O")⟩
  have hb8 : b < 8 := by
    rcases hb with rfl | hb
    · decide
    · have := Nat.mul_div_le c (s + 2)
      (walk_at "O")
  have k := List.all_eq_true.mp (List.all_eq_true.mp (List.all_eq_true.mp leadB_ok s (List.mem_range.mpr (by (walk_at "O")))) c (List.mem_range.mpr (by (walk_at "O")))) b (List.mem_range.mpr hb8)
  have hb' : (b == 0 || decide (b < (s + 2) * (c / (s + 2)))) = true := by
    rcases hb with hb | hb
    · rw [hb]; rfl
    · rw [decide_eq_true hb]; simp
  rw [hb'] at k
  simp only [Bool.not_true, Bool.false_or, Bool.and_eq_true, beq_iff_eq, decide_eq_true_eq] at k
  have hl : ∀ x ∈ leadB c (s + 2) b, x = 32 ∨ x = 9 := fun x hx => by
    unfold leadB at hx
    rcases List.mem_append.mp hx with hx | hx
    · rcases List.mem_append.mp hx with hx | hx
      · exact .inl (List.eq_of_mem_replicate hx)
      · exact .inr (List.eq_of_mem_replicate hx)
    · exact .inl (List.eq_of_mem_replicate hx)
  refine ⟨leadB c (s + 2) b, t, rfl, ?_, ?_, k.2⟩
  · rw [wsOf_app h hl]; exact k.1.1
  · rw [wsOf_app h hl]; exact k.1.2
theorem names_mem {nm : List Nat} (h : NameOk nm) : nm ∈ names84 := by
  have hc : ∀ c ∈ nm, c ∈ ltrs := fun c hc => by
    rcases h.chr c hc with rfl | rfl | rfl | rfl <;> decide
  have l1 := h.len.1
  have l3 := h.len.2
  unfold names84
  match nm, l1, l3, hc with
  | [a], _, _, hc => exact List.mem_append_left _ (List.mem_append_left _ (List.mem_map_of_mem (f := fun a => [a]) (hc a (.head _))))
  | [a, b], _, _, hc =>
    refine List.mem_append_left _ (List.mem_append_right _ (List.mem_flatMap.mpr ⟨a, hc a (.head _), List.mem_map_of_mem (f := fun b => a :: b) ?_⟩))
    exact List.mem_map_of_mem (f := fun a => [a]) (hc b (.tail _ (.head _)))
  | [a, b, c], _, _, hc =>
    refine List.mem_append_right _ (List.mem_flatMap.mpr ⟨a, hc a (.head _), List.mem_map_of_mem (f := fun b => a :: b) (List.mem_flatMap.mpr ⟨b, hc b (.tail _ (.head _)), List.mem_map_of_mem (f := fun b => _ :: b) ?_⟩)⟩)
    exact List.mem_map_of_mem (f := fun a => [a]) (hc c (.tail _ (.tail _ (.head _))))
noncomputable def far (a b : List Nat) : Nat := (farOf a b).toNat
theorem far_le {a b : List Nat} (ha : NameOk a) (hb : NameOk b) : farOf a b = (far a b : Int) ∧ far a b ≤ 6 := by
  have k := List.all_eq_true.mp (List.all_eq_true.mp lf_all a (names_mem ha)) b (names_mem hb)
  unfold lfOk at k
  simp only [Bool.and_eq_true, beq_iff_eq, decide_eq_true_eq] at k
  unfold far
  (walk_at "O")
noncomputable def upd (la : List Nat) (x : Nat × List Nat) : Nat × List Nat := (max x.1 (7 - far la x.2), x.2)
theorem near_is {a b : List Nat} (ha : NameOk a) (hb : NameOk b) {c : Nat} (hc : c ≤ 7) : ∃ r : Int, levS (mkS a) (mkS b) (6 - (c : Int)) = r ∧ 0 ≤ r ∧ (7 - r > c → 7 - r = ((7 - far a b : Nat) : Int) ∧ (upd a (c, b)).1 = 7 - far a b) ∧ (¬ 7 - r > c → (upd a (c, b)).1 = c) := by
  obtain ⟨f1, f2⟩ := far_le ha hb
  have k := List.all_eq_true.mp (List.all_eq_true.mp lf_all a (names_mem ha)) b (names_mem hb)
  unfold lfOk at k
  simp only [Bool.and_eq_true, beq_iff_eq, decide_eq_true_eq] at k
  have e : levS (mkS a) (mkS b) (6 - (c : Int)) = levL a b (6 - (c : Int)) := rfl
  have ha3 := ha.len.2
  have hb3 := hb.len.2
  rw [levL_M a b _ (by (walk_at "O")) (by (walk_at "O")) (by (walk_at "O"))] at e
  refine ⟨_, e, ?_, ?_, ?_⟩
  · split <;> (walk_at "O")
  · intro h
    unfold upd
    (try dsimp only)
    split at h <;> split <;> constructor <;> (walk_at "O")
  · intro h
    unfold upd
    (try dsimp only)
    split at h <;> (walk_at "O")
theorem wsGo_cs : ∀ (l : List Nat) (st : WS) (k : Nat), st.cs.length ≤ k → st.b ≤ k → (wsGo l st).cs.length ≤ k + l.length
  | [], st, k, h, _ => h
  | c :: l, st, k, h, hb => by
    rw [wsGo]
    split
    · have := wsGo_cs l ⟨st.cs, st.b + 1, st.n + 1, st.nt⟩ (k + 1) (by dsimp only; (walk_at "O")) (by dsimp only; (walk_at "O"))
      rw [List.length_cons]; (walk_at "O")
    split
    · have := wsGo_cs l ⟨bump st.cs st.b, 0, st.n + 1, st.nt + 1⟩ (k + 1) (by
        show (bump st.cs st.b).length ≤ _
        unfold bump
        simp only [List.length_set, List.length_append, List.length_replicate]
        (walk_at "O")) (Nat.zero_le _)
      rw [List.length_cons]; (walk_at "O")
    · rw [List.length_cons]; (walk_at "O")
theorem ws_cs (l : List Nat) : (wsOf (mkS l)).cs.length ≤ l.length := by
  have := wsGo_cs l ⟨[], 0, 0, 0⟩ 0 (Nat.le_refl _) (Nat.le_refl _)
  unfold wsOf
  show (wsGo l ⟨[], 0, 0, 0⟩).cs.length ≤ _
  (walk_at "O")
theorem slice_name (lead nm : List Nat) {k : Nat} (h : k = lead.length) : Txt.slice (mkS (lead ++ nm)) (some (k : Int)) none = mkS nm := by
  subst h
  unfold mkS
  rw [slice_drop (lead ++ nm) lead.length _ rfl, List.drop_left]
theorem lead_len {sz c : Nat} (h2 : 2 ≤ sz) (h4 : sz ≤ 4) (hc : c ≤ 7) (d : Nat) : (leadOf c sz d).length ≤ 14 := by
  obtain ⟨b, e, hb⟩ := lead_is c sz d
  rw [e]
  obtain ⟨s, rfl⟩ : ∃ s, sz = s + 2 := ⟨sz - 2, by (walk_at "O")⟩
  have hb8 : b < 8 := by
    rcases hb with rfl | hb
    · decide
    · have := Nat.mul_div_le c (s + 2)
      (walk_at "O")
  have k := List.all_eq_true.mp (List.all_eq_true.mp (List.all_eq_true.mp leadB_ok s (List.mem_range.mpr (by (walk_at "O")))) c (List.mem_range.mpr (by (walk_at "O")))) b (List.mem_range.mpr hb8)
  have hb' : (b == 0 || decide (b < (s + 2) * (c / (s + 2)))) = true := by
    rcases hb with hb | hb
    · rw [hb]; rfl
    · rw [decide_eq_true hb]; simp
  rw [hb'] at k
  simp only [Bool.not_true, Bool.false_or, Bool.and_eq_true, beq_iff_eq, decide_eq_true_eq] at k
  exact k.2
theorem mkS_ne {l nm : List Nat} (h : NameOk nm) : (mkS (l ++ nm) != Str.ofString "") = true := by
  rw [bne_iff_ne]
  intro e
  have e2 : (mkS (l ++ nm)).length = (Str.ofString "").length := by rw [e]
  rw [show (mkS (l ++ nm)).length = (l ++ nm).length from by show (l ++ nm).toArray.size = _; simp, List.length_append] at e2
  have := h.len.1
  have e3 : (Str.ofString "").length = 0 := rfl
  (walk_at "O")
end Uc
end
section
namespace Uc
noncomputable def ls0 : Stmt := by
  refine (fun (_ : f23_body[0]? = some (.Assign ?a ?b ?c)) => .Assign ?a ?b ?c) ?h
  exact rfl
noncomputable def ls1 : Stmt := by
  refine (fun (_ : f23_body[1]? = some (.Assign ?a ?b ?c)) => .Assign ?a ?b ?c) ?h
  exact rfl
noncomputable def ls2 : Stmt := by
  refine (fun (_ : f23_body[2]? = some (.Assign ?a ?b ?c)) => .Assign ?a ?b ?c) ?h
  exact rfl
noncomputable def ls3 : Stmt := by
  refine (fun (_ : f23_body[3]? = some (.Assign ?a ?b ?c)) => .Assign ?a ?b ?c) ?h
  exact rfl
noncomputable def ls4 : Stmt := by
  refine (fun (_ : f23_body[4]? = some (.Assign ?a ?b ?c)) => .Assign ?a ?b ?c) ?h
  exact rfl
noncomputable def ls5 : Stmt := by
  refine (fun (_ : f23_body[5]? = some (.Assign ?a ?b ?c)) => .Assign ?a ?b ?c) ?h
  exact rfl
noncomputable def ls6 : Stmt := by
  refine (fun (_ : f23_body[6]? = some (.Assign ?a ?b ?c)) => .Assign ?a ?b ?c) ?h
  exact rfl
noncomputable def ls7 : Stmt := by
  refine (fun (_ : f23_body[7]? = some (.Assign ?a ?b ?c)) => .Assign ?a ?b ?c) ?h
  exact rfl
noncomputable def ls8 : Stmt := by
  refine (fun (_ : f23_body[8]? = some (.For ?a ?b ?c ?d ?e)) => .For ?a ?b ?c ?d ?e) ?h
  exact rfl
noncomputable def ls9 : Stmt := by
  refine (fun (_ : f23_body[9]? = some (.For ?a ?b ?c ?d ?e)) => .For ?a ?b ?c ?d ?e) ?h
  exact rfl
noncomputable def ls10 : Stmt := by
  refine (fun (_ : f23_body[10]? = some (.If ?a ?b ?c ?d)) => .If ?a ?b ?c ?d) ?h
  exact rfl
noncomputable def ls11 : Stmt := by
  refine (fun (_ : f23_body[11]? = some (.Assign ?a ?b ?c)) => .Assign ?a ?b ?c) ?h
  exact rfl
noncomputable def ls12 : Stmt := by
  refine (fun (_ : f23_body[12]? = some (.For ?a ?b ?c ?d ?e)) => .For ?a ?b ?c ?d ?e) ?h
  exact rfl
noncomputable def ls13 : Stmt := by
  refine (fun (_ : f23_body[13]? = some (.If ?a ?b ?c ?d)) => .If ?a ?b ?c ?d) ?h
  exact rfl
noncomputable def ls14 : Stmt := by
  refine (fun (_ : f23_body[14]? = some (.Return ?a ?b)) => .Return ?a ?b) ?h
  exact rfl
theorem law_stmts : f23_body = [ls0, ls1, ls2, ls3, ls4, ls5, ls6, ls7, ls8, ls9, ls10, ls11, ls12, ls13, ls14] := by rfl
noncomputable abbrev lawCl (L : Addr) : List (Str × Addr) := [(Str.ofString "lexer", L + 5), (Str.ofString "names", L + 4), (Str.ofString "numbers", L + 3), (Str.ofString "firsts", L + 2), (Str.ofString "script", L + 1)]
noncomputable abbrev lawEnv (L fa : Addr) (cd : Value) : Env := envX (Str.ofString "law") f23_scope L fa cd (lawCl L)
noncomputable abbrev lawA (dp un : Nat) (gd : Option (List Code)) (outer : List Env) (L fa : Addr) (cd : Value) : Around := ktrTop dp un gd (Str.ofString "law") f23_scope L fa cd (lawCl L) outer
theorem intsAre_get {vs : List Value} {ns : List Int} (h : IntsAre vs ns) : ∀ k : Nat, (vs[k]? = none ∧ ns[k]? = none) ∨ ∃ n t, vs[k]? = some (.int n t) ∧ ns[k]? = some n := by
  induction h with
  | nil => intro k; exact .inl ⟨rfl, rfl⟩
  | cons n t h ih =>
    intro k
    cases k with
    | zero => exact .inr ⟨n, t, rfl, rfl⟩
    | succ k => exact ih k
theorem intsAre_pick {vs : List Value} {ns : List Int} (h : IntsAre vs ns) : ∀ idx : List Nat, IntsAre (idx.filterMap (vs.toArray[·]?)) (idx.filterMap (ns[·]?))
  | [] => .nil
  | k :: idx => by
    have e : vs.toArray[k]? = vs[k]? := by simp
    rw [List.filterMap_cons, List.filterMap_cons, e]
    rcases intsAre_get h k with ⟨a, b⟩ | ⟨n, t, a, b⟩
    · rw [a, b]; exact intsAre_pick h idx
    · rw [a, b]; exact .cons n t (intsAre_pick h idx)
section
variable {prog : Program} {w : World} {A : Around} {E : Value → Shared → Prop} {s : Shared} {h₀ : Heap} {L l : Addr} {m : Str → Option Value} {news : List (Addr × Obj)} {value slice : PySem.Expr} {vs : List Value} {ns : List Int} {vl vu vk : Value} {lo hi st : Option Int} {ops : List Value} {Q : Value → Shared → Prop}
theorem slice3_ints (F : Fr h₀ L s.heap m) (N : News h₀ L s.heap news) (hl : s.heap.IsList l vs.toArray) (pl : IsPart vl lo) (pu : IsPart vu hi) (pk : IsPart vk st) (h0 : st ≠ some 0) (hi' : IntsAre vs ns)
    (h : ∀ D ws ms h', Fr h₀ L h' m → News h₀ L h' ((D, listOf (List.toArray ws) 0) :: news) → (∀ p ∈ news, p.1 < D) → IntsAre ws ms → Q (.ref D) { s with heap := h' })
    (hs : subscripted slice false (.ref l) (.ref s.heap.objs.size) = operate ops (getItem (.ref l) (.ref s.heap.objs.size))) (ht : ∀ r, letTemporaryGo value (.ref l) r = pure ()) (hz : vs.toArray.size ≤ sizeLine) :
    wpAny (model prog w) A (subscriptTail value slice (.ref l) (.ref s.heap.objs.size)) Q E { s with heap := s.heap.push { cls := .type "slice", data := .fields #[vl, vu, vk] } } := by
  have key : ∃ ms, IntsAre (slicePick vs.toArray lo hi st).toList ms := ⟨_, by
    unfold slicePick
    rw [List.toList_toArray]
    exact intsAre_pick hi' _⟩
  obtain ⟨ms, hm⟩ := key
  refine slice_list3 F N hl pl pu pk h0 (fun h' F' N' => h _ (slicePick vs.toArray lo hi st).toList ms h' F' (by rw [Array.toArray_toList]; exact N') (fun p hp => Nat.lt_succ_of_lt (Heap.lt_size (N p hp).1)) hm) hs ht hz
end
theorem nameLed {h₀ h : Heap} {L : Addr} {l : Led} (N : News h₀ L h l) : ∃ led, l = led ∧ News h₀ L h led := ⟨l, rfl, N⟩
theorem intsAre_snoc {ys : List Value} {ns : List Nat} (h : IntsAre ys (ns.map fun (n : Nat) => (n : Int))) {x : Int} {t : Tok} {k : Nat} (e : x = (k : Int)) : IntsAre (ys ++ [.int x t]) ((ns ++ [k]).map fun (n : Nat) => (n : Int)) := by
  rw [List.map_append, e]
  exact IntsAre.append h (.cons _ _ .nil)
theorem mod_million (a : Int) : ∃ k : Nat, k < 1000000 ∧ a.fmod (10 ^ Int.toNat 6) = (k : Int) := by
  have e : (10 : Int) ^ Int.toNat 6 = 1000000 := by decide
  rw [e, Int.fmod_eq_emod_of_nonneg _ (by decide)]
  refine ⟨(a % 1000000).toNat, ?_, ?_⟩
  · have := Int.emod_lt_of_pos a (show (0 : Int) < 1000000 by decide)
    have := Int.emod_nonneg a (show (1000000 : Int) ≠ 0 by decide)
    omega
  · have := Int.emod_nonneg a (show (1000000 : Int) ≠ 0 by decide)
    omega
end Uc
end
section
namespace Uc
open PyProof.Rows.LCg
noncomputable def nameOf (n : Nat) : List Nat := (List.range (1 + n % 3)).map fun p => [102, 105, 70, 73].getD (n / 3 / 4 ^ p % 4) 0
theorem nameOf_len (n : Nat) : (nameOf n).length = 1 + n % 3 := by unfold nameOf; rw [List.length_map, List.length_range]
theorem letter_at {n j : Nat} {zs : List Value} {t : Tok} (h : j < 1 + n % 3) (hs : StrsAre zs (chrs ((nameOf n).take j))) : StrsAre (zs ++ [.str (Txt.item (Str.ofString "fiFI") ((((n : Int).fdiv 3).fdiv (4 ^ (j : Int).toNat)).fmod 4)) t]) (chrs ((nameOf n).take (j + 1))) := by
  have hj : j < (nameOf n).length := by rw [nameOf_len]; exact h
  rw [List.take_add_one, List.getElem?_eq_getElem hj]
  refine strs_snoc' hs ?_
  have e : (((n : Int).fdiv 3).fdiv (4 ^ (j : Int).toNat)).fmod 4 = ((n / 3 / 4 ^ j % 4 : Nat) : Int) := by
    rw [Int.toNat_natCast, show (3 : Int) = ((3 : Nat) : Int) from rfl, fdiv_nat, show (4 : Int) ^ j = ((4 ^ j : Nat) : Int) from (Int.natCast_pow 4 j).symm, fdiv_nat, show (4 : Int) = ((4 : Nat) : Int) from rfl, fmod_nat]
  have hz : n / 3 / 4 ^ j % 4 < 4 := Nat.mod_lt _ (by decide)
  have el : (nameOf n)[j] = [102, 105, 70, 73].getD (n / 3 / 4 ^ j % 4) 0 := by
    simp only [nameOf, List.getElem_map, List.getElem_range]
  rw [e, el]
  generalize n / 3 / 4 ^ j % 4 = z at hz
  revert z
  decide +kernel
theorem ints_at {vs : List Value} {ns : List Nat} (h : IntsAre vs (ns.map fun (n : Nat) => (n : Int))) {i : Nat} {v : Value} (hv : vs[i]? = some v) : ∃ (n : Nat) (t : Tok), v = .int (n : Int) t ∧ ns[i]? = some n := by
  rcases intsAre_get h i with ⟨a, _⟩ | ⟨n, t, a, b⟩
  · rw [a] at hv; cases hv
  · rw [List.getElem?_map] at b
    cases e : ns[i]? with
    | none => rw [e] at b; cases b
    | some k =>
      rw [e] at b
      cases b
      rw [a] at hv
      exact ⟨k, t, (Option.some.inj hv).symm, rfl⟩
section
variable (w : World) (p : Program) (loose : List Str) (mean : ExcName → Option Value) (mg mb : Str → Option Value)
theorem seg2 {h₀ : Heap} {L fa : Addr} {cd : Value} {s : Shared} {Q : Flow → Shared → Prop} {E : Value → Shared → Prop} {m : Str → Option Value} {A₀ : Around} {base : Heap} {outer : List Env} {dp un : Nat} {gd : Option (List Code)} (B : Below A₀ base outer h₀) (hpre : CodeHd base 213 209) (hdp : dp + 30 < recursionLimit) (hun : un + 120 < cLine) (X : (K w.params).In h₀) (T : Top p loose mean mg mb h₀)
    {o3 o4 o5 : Obj} {Ml : Addr} {ys : List Value} {nums : List Nat} (d3 : o3.data = .cell (some (.ref Ml))) (d4 : o4.data = .cell none) (hn : nums.length = 5) (hb : ∀ n ∈ nums, n < 1000000) (hI : IntsAre ys (nums.map fun (n : Nat) => (n : Int)))
    (hne : (@Ne Nat (L + 5) Ml) ∧ (@Ne Nat (L + 4) Ml) ∧ (@Ne Nat (L + 3) Ml) ∧ (@Ne Nat 209 Ml)) (hTB : @LT.lt Nat _ 209 L)
    (F : Fr h₀ L s.heap m) (N : News h₀ L s.heap [(Ml, lst ys), (L + 5, o5), (L + 4, o4), (L + 3, o3), (209, tabObj #[])])
    (ret : ∀ h' tk' m' Nl zs o4', StrsAre zs (nums.map fun n => mkS (nameOf n)) → o4'.data = .cell (some (.ref Nl)) → Fr h₀ L h' m' → News h₀ L h' [(Nl, lst zs), (Ml, lst ys), (L + 5, o5), (L + 4, o4'), (L + 3, o3), (209, tabObj #[])] → ((@Ne Nat Ml Nl) ∧ (@Ne Nat (L + 5) Nl) ∧ (@Ne Nat (L + 4) Nl) ∧ (@Ne Nat (L + 3) Nl) ∧ (@Ne Nat 209 Nl)) → Q .next { s with heap := h', toks := tk' }) :
    wpAny (model Pm w) (lawA dp un gd outer L fa cd) (exec ls2 (lawEnv L fa cd)) Q E s := by
  revert X
  dsimp only [Pm]
  k_fill
  intro X
  unfold ls2
  dsimp only [lawEnv, lawA, lawCl]
  have hyl : ys.length = 5 := by rw [intsAre_len hI, List.length_map, hn]
  repeat' (first | (walk_at "P") | (walk_at "F"; first | ((with_reducible show wpAny _ _ (eval (PySem.Expr.ListComp _ _ _ _) _) _ _ _); (k_dflt (first | (refine Uc.comp_range (by rfl) (by decide) (by rfl) (by decide) (by rfl) ?_) | (refine Uc.comp_listX (by rfl) (fun _ => by rfl) (fun _ => by rfl) (by rfl) (by decide) (by rfl) ?_)))) | (walk_at "T")))
  refine Uc.ei8 _ _ _ _ _ _ _ (fun i ys nw => nw = _ ∧ StrsAre ys ((nums.take i).map fun n => mkS (nameOf n))) ⟨rfl, rfl, by assumption, by assumption, .head _, by (walk_at "O"), ⟨rfl, .nil⟩, ?T, ?fin⟩
  case T =>
    intro g X oX i v zs nw I oI C oC D m₂ h tk E' hi hv w11q _ hoC hoX F N off offX w12q; (refine Uc.ah2 w11q fun e1q hS => ?_; clear w11q; subst e1q); (refine Uc.ah3 w12q fun d1' d2' d3' => ?_; clear w12q)
    obtain ⟨n, tn, rfl, hni⟩ := ints_at hI hv
    have hn6 : n < 1000000 := hb n (List.mem_of_getElem? hni)
    obtain ⟨led, hled⟩ : ∃ l, [(Ml, lst ys), (L + 5, o5), (L + 4, o4), (L + 3, o3), (209, tabObj #[])] = l := ⟨_, rfl⟩
    repeat' (first | (walk_at "P") | (walk_at "F"; first | ((with_reducible show wpAny _ _ (callWith _ (Value.builtin _) _ _ _) _ _ _); dsimp only; first | ((with_reducible show wpAny _ _ (callWith _ (Value.builtin "list.append") _ _ _) _ _ _); refine callWith_method1 ?_) | ((with_reducible show wpAny _ _ (callWith _ (Value.builtin "str.join") _ _ _) _ _ _); refine callWith_method1 ?_)) | ((with_reducible show wpAny _ _ (eval (PySem.Expr.ListComp _ _ _ _) _) _ _ _); (k_dflt (first | (refine Uc.comp_range (by rfl) (by decide) (by rfl) (by decide) (by rfl) ?_) | (refine Uc.comp_listX (by rfl) (fun _ => by rfl) (fun _ => by rfl) (by rfl) (by decide) (by rfl) ?_)))) | (walk_at "T")))
    rename Fr _ _ _ _ => F9
    rename News _ _ _ _ => N9
    refine Uc.ei11 _ _ _ _ _ _ _ _ (1 + n % 3) _ (fun j zs2 nw => nw = [(I, oI), (C, oC), (D, lst zs), (X, oX), (Ml, lst ys), (L + 5, o5), (L + 4, o4), (L + 3, o3), (209, tabObj #[])] ∧ StrsAre zs2 (chrs ((nameOf n).take j))) ⟨rfl, rfl, F9, N9, by assumption, by have e3 : (n : Int).fmod 3 = ((n % 3 : Nat) : Int) := fmod_nat n 3; (walk_at "O"), by (walk_at "O"), ⟨rfl, .nil⟩, ?T2, ?fin2⟩
    case T2 =>
      clear F9 N9
      intro g2 j vj zs2 nw I2 oI2 C2 oC2 D2 m3 h2 tk2 E2 hj w13q w14q _ hoC2 hmj F N off2 w15q; obtain ⟨tj, rfl⟩ := w13q; (refine Uc.ah2 w14q fun e1q hS2 => ?_; clear w14q; subst e1q); (refine Uc.ah3 w15q fun d1' d2' d3' => ?_; clear w15q)
      refine wpAny_tests_nil ?_
      simp only [if_true]
      have hj3 : j = 0 ∨ j = 1 ∨ j = 2 := by (walk_at "O")
      rcases hj3 with rfl | rfl | rfl
      all_goals repeat' (first | (walk_at "P") | (walk_at "F"; walk_at "T"))
      all_goals exact TurnC.mk _ (by assumption) (by assumption) (fun _ h => h) off2 ⟨trivial, rfl, letter_at hj hS2⟩
    case fin2 =>
      clear F9 N9
      rintro D2 h2 tk2 zs2 nw ⟨rfl, hS2⟩ F N o2
      rw [List.take_of_length_le (Nat.le_of_eq (nameOf_len n))] at hS2
      repeat' (first | (walk_at "P") | (walk_at "F"; walk_at "T"))
      refine join_listW (ys := chrs (nameOf n)) (News.isList N (.head _)) hS2 (by decide) (chrs_w (by rw [nameOf_len]; (walk_at "O"))) ?_
      intro t9 tk9
      rw [join_chrs]
      repeat' (first | (walk_at "P") | (walk_at "F"; walk_at "T"))
      exact TurnC.mk _ (by assumption) (by assumption) (fun p hp => .tail _ hp) off ⟨_, rfl, offX, by assumption, rfl, by
        rw [List.take_add_one, hni]
        show StrsAre _ (List.map _ (_ ++ [n]))
        rw [List.map_append]
        exact StrsAre.append' hS (.cons _ _ .nil)⟩
  case fin =>
    rintro D h tk zs nw ⟨rfl, hS⟩ F N o1
    (refine Uc.ah6 o1 fun f1 f2 f3 f4 f5 _ => ?_; clear o1)
    have f3' := Ne.symm f3
    repeat' (first | (walk_at "P") | (walk_at "F"; walk_at "T"))
    rw [hyl, ← hn, List.take_of_length_le (Nat.le_refl _)] at hS
    exact ret _ _ _ _ _ _ hS (by assumption) (by assumption) (by assumption) ⟨f1, f2, f3, f4, f5⟩
end
end Uc
end
section
namespace Uc
section
variable (w : World) (p : Program) (loose : List Str) (mean : ExcName → Option Value) (mg mb : Str → Option Value)
theorem item_head (c : Nat) (t : List Nat) : Txt.item ⟨(c :: t).toArray⟩ 0 = chr1 c := by
  unfold Txt.item Txt.charAt seqIndex?
  simp [chr1, Str.length]
theorem lig_iff (P : List Nat) : ([Str.ofString "ffi", Str.ofString "ff", Str.ofString "fi"].any fun x => x == (⟨P.toArray⟩ : Str)) = true ↔ P = [102, 102, 105] ∨ P = [102, 102] ∨ P = [102, 105] := by
  constructor
  · intro h
    by_cases a : P = [102, 102, 105]
    · exact .inl a
    by_cases b : P = [102, 102]
    · exact .inr (.inl b)
    by_cases c : P = [102, 105]
    · exact .inr (.inr c)
    rw [no_lig a b c] at h
    cases h
  · rintro (rfl | rfl | rfl) <;> rfl
theorem spell_c (news : List (Addr × Obj)) (x : List Nat) (tx tn : Tok) (n : Nat) (hx : x.length ≤ 3) (hc : ∀ c ∈ x, c = 102 ∨ c = 105 ∨ c = 70 ∨ c = 73) (hn : n ≤ 1000000) :
    Con w p loose mean mg mb 219 12 40 [.str ⟨x.toArray⟩ tx, .int (n : Int) tn] news (fun _ => True) (fun v n' => n' = news ∧ ∃ t, v = .str ⟨(spelled x n).toArray⟩ t) := by
  dsimp only [Con, Pm]
  k_fill
  intros
  rename_i hret
  refine wpAny_call ?_
  k_dflt cell_enter
  rename Fr _ _ _ _ => F0
  rename News _ _ _ _ => N0
  refine Uc.J.start (gl_ok (by assumption) (by assumption)) F0 N0 rfl rfl ?_
  clear F0 N0
  rename_i qk ek
  intro C
  have ret : ∀ {m : Str → Option Value} {v : Value} {h : Heap} {tk : Nat} {nw : Led}, (fun v n' => n' = news ∧ ∃ t, v = .str ⟨(spelled x n).toArray⟩ t) v nw → Fr C.h₀ C.L h m → News C.h₀ C.L h nw → C.Q (.ret v) (C.sg h tk) := by
    intro m v h tk nw hv F N
    dsimp only [C, qk] at F N ⊢
    exact leaveK_ F N fun kF kN => hret _ _ _ _ hv kF kN
  have hE : PassesOwn C.M C.A C.env C.E := PassesOwn.leaving
  refine J.step ?_
  intro h tk F N
  repeat' (first | (walk_at "P") | (walk_at "F"; walk_at "T"))
  rename (∀ p, p ∈ news → p.1 < _) => hl
  refine J.next ?_ (by assumption) (News.sub (b := (_, listOf #[] 0) :: news) (by assumption) (by first | (intro _ h; first | exact h | exact .tail _ h | exact .tail _ (.tail _ h) | exact .tail _ (.tail _ (.tail _ h))) | ((with_reducible repeat (first | exact Uc.ledgR | refine Uc.ledgK ?_ | refine Uc.ledgD ?_)); done) | (intro _ h; simp only [List.mem_cons, List.mem_append, List.mem_singleton, List.not_mem_nil, or_false] at h ⊢; grind)))
  obtain ⟨l, hl2, hne⟩ := nameLt hl
  rw [← hl2]
  clear hl hl2
  refine J.while (σ := List Nat × Nat × List Nat × List Value × Nat × Tok × Tok × Tok) (fun c => (l, listOf c.2.2.2.1.toArray c.2.2.2.2.1) :: news)
    (fun c => [(Str.ofString "text", .str ⟨c.1.toArray⟩ c.2.2.2.2.2.1), (Str.ofString "rest", .int (c.2.1 : Int) c.2.2.2.2.2.2.1), (Str.ofString "typed", .ref l), (Str.ofString "number", .int (n : Int) c.2.2.2.2.2.2.2)])
    (fun c => (∃ k, c.1.length ≤ k ∧ typedOf x n = c.2.2.1 ++ spell k c.1 c.2.1) ∧ StrsAre c.2.2.2.1 (chrs c.2.2.1) ∧ c.1.length + c.2.2.1.length ≤ 3 ∧ (∀ d ∈ c.1, d = 102 ∨ d = 105 ∨ d = 70 ∨ d = 73) ∧ c.2.1 ≤ 1000000)
    (fun c => c.1.length) (x, n, [], [], 0, _, _, _) (fun _ => _) (fun _ _ _ => tb0) hE ⟨rfl, rfl, rfl, rfl, trivial⟩ ⟨⟨_, Nat.le_refl _, rfl⟩, .nil, hx, hc, hn⟩ ?turn
  refine fpLooooooooR fun t r y vs cnt t1 t2 t3 => ?_
  intro u hR
  obtain ⟨⟨k, hk, h1⟩, h2, h3, h4, h5⟩ := hR
  dsimp only at hk h1 h2 h3 h4 h5
  dsimp -zeta only
  (first | (refine' Uc.Bs.holds_ok ?jp ?_; (case jp => exact rfl)) | (refine' Uc.Bs.holds_c ?jp ?jc ?_; (case jp => exact rfl); (case jc => first | omega | skip)))
  refine ⟨fun hp => ?_, fun hp => ?_⟩
  · intro C1
    cases t with
    | nil => exact absurd rfl hp
    | cons c t =>
    clear hp
    obtain ⟨k, rfl⟩ : ∃ k', k = k' + 1 := ⟨k - 1, by rw [List.length_cons] at hk; (walk_at "O")⟩
    rw [List.length_cons] at hk h3
    have hc4 := h4 c (.head _)
    have hvl : vs.length ≤ 3 := by
      have := StrsAre.length h2
      rw [this]; unfold chrs; rw [List.length_map]; (walk_at "O")
    have hsz : (⟨(c :: t).toArray⟩ : Str).length = t.length + 1 := rfl
    have hp : Txt.slice ⟨(c :: t).toArray⟩ none (some (3 - (r : Int).fmod 3)) = ⟨((c :: t).take (3 - r % 3)).toArray⟩ := slice_take (c :: t) (3 - r % 3) _ (by
      have e3 : (r : Int).fmod 3 = ((r % 3 : Nat) : Int) := fmod_nat r 3
      rw [e3]
      have h9 : r % 3 < 3 := Nat.mod_lt _ (by decide)
      generalize r % 3 = z at h9
      (walk_at "O"))
    rw [spell_eq] at h1
    refine' J.asg_c tb0 ?jp rfl ?js ?jc fun t4 => ?_
    case jp => exact rfl
    case js => exact rfl
    case jc => exact ⟨⟨by decide, by decide⟩, by omega⟩
    dsimp only [PV.den]
    rw [hp]
    clear hp
    obtain ⟨P, hP⟩ : ∃ P, P = (c :: t).take (3 - r % 3) := ⟨_, rfl⟩
    rw [← hP] at h1 ⊢
    have hPl : P.length ≤ t.length + 1 := by rw [hP, List.length_take, List.length_cons]; exact Nat.min_le_right _ _
    refine J.stepJ (σ := List Nat × Nat × List Value × Nat × Tok) (fun z => (l, listOf z.2.2.1.toArray z.2.2.2.1) :: news)
      (fun z => [(Str.ofString "text", .str ⟨(c :: t).toArray⟩ t1), (Str.ofString "rest", .int (r : Int) t2), (Str.ofString "typed", .ref l), (Str.ofString "number", .int (n : Int) t3), (Str.ofString "piece", .str ⟨z.1.toArray⟩ z.2.2.2.2)])
      (fun z => 1 ≤ z.1.length ∧ z.1.length ≤ t.length + 1 ∧ typedOf x n = y ++ (z.2.1 :: spell k ((c :: t).drop z.1.length) (r / 30)) ∧ StrsAre z.2.2.1 (chrs (y ++ [z.2.1]))) ?j1 ?j2
    case j1 =>
      refine At.gen [(Str.ofString "piece", .str ⟨P.toArray⟩ t4), (Str.ofString "text", .str ⟨(c :: t).toArray⟩ t1), (Str.ofString "rest", .int (r : Int) t2), (Str.ofString "typed", .ref l), (Str.ofString "number", .int (n : Int) t3)] ⟨rfl, rfl, rfl, rfl, rfl, trivial⟩ fun u => ?_
      refine if_x (p := P = [102, 102, 105] ∨ P = [102, 102] ∨ P = [102, 105]) (fun Q q h tk F N => ?_) (fun hlig => ?_) (fun hlig => ?_)
      · dsimp only [Cx.sg] at F N ⊢
        repeat' (first | (walk_at "P") | (walk_at "F"; walk_at "T"))
        exact q _ (lig_iff P) _ _ (by assumption) (News.sub (by assumption) (by first | (intro _ h; first | exact h | exact .tail _ h | exact .tail _ (.tail _ h) | exact .tail _ (.tail _ (.tail _ h))) | ((with_reducible repeat (first | exact Uc.ledgR | refine Uc.ledgK ?_ | refine Uc.ledgD ?_)); done) | (intro _ h; simp only [List.mem_cons, List.mem_append, List.mem_singleton, List.not_mem_nil, or_false] at h ⊢; grind)))
      · intro C2
        refine J.step ?_
        intro h tk F N
        dsimp only [Cx.sg] at F N ⊢
        repeat' (first | (walk_at "P") | (walk_at "F"; (fail_if_success (with_reducible show wpAny _ _ (subscriptTail _ _ (Value.ref _) (Value.str _ _)) _ _ _)); first | ((with_reducible show wpAny _ _ (callWith _ (Value.builtin _) _ _ _) _ _ _); dsimp only; first | ((with_reducible show wpAny _ _ (callWith _ (Value.builtin "list.append") _ _ _) _ _ _); refine callWith_method1 ?_) | ((with_reducible show wpAny _ _ (callWith _ (Value.builtin "str.join") _ _ _) _ _ _); refine callWith_method1 ?_)) | (walk_at "T")))
        clear F
        rename Fr _ _ _ _ => F
        rcases hlig with e | hlig
        · skip
          rw [e] at hPl
          rw [if_pos e] at h1
          rw [e, show (⟨[102, 102, 105].toArray⟩ : Str) = Str.ofString "ffi" from by rfl] at F ⊢
          repeat' (first | (walk_at "P") | (walk_at "F"; first | ((with_reducible show wpAny _ _ (callWith _ (Value.builtin _) _ _ _) _ _ _); dsimp only; first | ((with_reducible show wpAny _ _ (callWith _ (Value.builtin "list.append") _ _ _) _ _ _); refine callWith_method1 ?_) | ((with_reducible show wpAny _ _ (callWith _ (Value.builtin "str.join") _ _ _) _ _ _); refine callWith_method1 ?_)) | (walk_at "T")))
          rename News _ _ _ _ => N7
          simp only [List.push_toArray] at N7
          refine J.next ?_ (by assumption) (News.drop1 N7)
          exact J.jl ([102, 102, 105], 64259, _, _, _) rfl ⟨rfl, rfl, rfl, rfl, rfl, trivial⟩ ⟨Nat.succ_le_succ (Nat.zero_le _), hPl, h1, strs_snoc' h2 (by rfl)⟩
        rcases hlig with e | e
        · skip
          rw [e] at hPl
          rw [if_neg (by rw [e]; decide), if_pos e] at h1
          rw [e, show (⟨[102, 102].toArray⟩ : Str) = Str.ofString "ff" from by rfl] at F ⊢
          repeat' (first | (walk_at "P") | (walk_at "F"; first | ((with_reducible show wpAny _ _ (callWith _ (Value.builtin _) _ _ _) _ _ _); dsimp only; first | ((with_reducible show wpAny _ _ (callWith _ (Value.builtin "list.append") _ _ _) _ _ _); refine callWith_method1 ?_) | ((with_reducible show wpAny _ _ (callWith _ (Value.builtin "str.join") _ _ _) _ _ _); refine callWith_method1 ?_)) | (walk_at "T")))
          rename News _ _ _ _ => N7
          simp only [List.push_toArray] at N7
          refine J.next ?_ (by assumption) (News.drop1 N7)
          exact J.jl ([102, 102], 64256, _, _, _) rfl ⟨rfl, rfl, rfl, rfl, rfl, trivial⟩ ⟨Nat.succ_le_succ (Nat.zero_le _), hPl, h1, strs_snoc' h2 (by rfl)⟩
        · skip
          rw [e] at hPl
          rw [if_neg (by rw [e]; decide), if_neg (by rw [e]; decide), if_pos e] at h1
          rw [e, show (⟨[102, 105].toArray⟩ : Str) = Str.ofString "fi" from by rfl] at F ⊢
          repeat' (first | (walk_at "P") | (walk_at "F"; first | ((with_reducible show wpAny _ _ (callWith _ (Value.builtin _) _ _ _) _ _ _); dsimp only; first | ((with_reducible show wpAny _ _ (callWith _ (Value.builtin "list.append") _ _ _) _ _ _); refine callWith_method1 ?_) | ((with_reducible show wpAny _ _ (callWith _ (Value.builtin "str.join") _ _ _) _ _ _); refine callWith_method1 ?_)) | (walk_at "T")))
          rename News _ _ _ _ => N7
          simp only [List.push_toArray] at N7
          refine J.next ?_ (by assumption) (News.drop1 N7)
          exact J.jl ([102, 105], 64257, _, _, _) rfl ⟨rfl, rfl, rfl, rfl, rfl, trivial⟩ ⟨Nat.succ_le_succ (Nat.zero_le _), hPl, h1, strs_snoc' h2 (by rfl)⟩
      · intro C2
        rw [if_neg (fun e => hlig (.inl e)), if_neg (fun e => hlig (.inr (.inl e))), if_neg (fun e => hlig (.inr (.inr e)))] at h1
        clear hlig
        obtain ⟨code, hcode⟩ : ∃ code, code = (if c = 70 ∨ c = 73 then c else bases.getD (r / 3 % 10) 97 + c - 97) := ⟨_, rfl⟩
        rw [← hcode] at h1
        refine' J.asg_c tb0 ?jp rfl ?js ?jc fun t5 => ?_
        case jp => exact rfl
        case js => exact rfl
        case jc => rw [hsz]; omega
        dsimp only [PV.den]
        rw [item_head]
        refine J.step ?_
        intro h tk F N
        dsimp only [Cx.sg] at F N ⊢
        repeat' (first | (walk_at "P") | (walk_at "F"; walk_at "T"))
        rename Fr _ _ _ _ => F7
        rw [base_eq] at F7
        rename News _ _ _ _ => N7
        have N8 := News.sub (b := (l, listOf vs.toArray cnt) :: news) N7 (by first | (intro _ h; first | exact h | exact .tail _ h | exact .tail _ (.tail _ h) | exact .tail _ (.tail _ (.tail _ h))) | ((with_reducible repeat (first | exact Uc.ledgR | refine Uc.ledgK ?_ | refine Uc.ledgD ?_)); done) | (intro _ h; simp only [List.mem_cons, List.mem_append, List.mem_singleton, List.not_mem_nil, or_false] at h ⊢; grind))
        refine J.next ?_ F7 N8
        have hB := base_rng (base_in r)
        have hg : (chr1 c).cps.getD 0 0 = c := rfl
        have h1c : (chr1 c).length = 1 := rfl
        refine' J.app tb0 rfl rfl hne (by omega) rfl rfl rfl ?_
        (first | (refine' Uc.Rs.holds_ok ?jp ?_; (case jp => exact rfl)) | (refine' Uc.Rs.holds_c ?jp ?jc ?_; (case jp => exact rfl); (case jc => first | omega | skip)))
        intro t8
        dsimp only [PV.den]
        refine J.jl ([c], code, _, _, _) rfl ⟨rfl, rfl, rfl, rfl, rfl, trivial⟩ ⟨Nat.le_refl _, Nat.succ_le_succ (Nat.zero_le _), h1, strs_snoc' h2 ?_⟩
        show _ = chr1 code
        rw [hcode]
        split
        · rename_i z
          rw [fi_occ hc4, Bool.not_eq_false', decide_eq_true_iff] at z
          rw [if_pos z]
        · rename_i z
          rw [fi_occ hc4, Bool.not_eq_false', decide_eq_true_iff] at z
          rw [if_neg z]
          exact congrArg (fun z : Nat => (⟨#[z]⟩ : Str)) (by (try dsimp only); rw [hg]; (walk_at "O"))
    case j2 =>
      clear h1 h2 hvl
      refine fpLoooooR fun pl code ws wc t5 => ?_
      intro u hz
      obtain ⟨g1, g2, g3, g4⟩ := hz
      dsimp only at g1 g2 g3 g4 ⊢
      have hpl : (⟨pl.toArray⟩ : Str).length = pl.length := len_mk pl
      refine' J.asg2 tb0 rfl rfl ?jw ?jx ?jy ?_
      case jw => exact rfl
      case jx => exact rfl
      case jy => exact rfl
      (first | (refine' Uc.Rs.holds_ok ?jp ?_; (case jp => exact rfl)) | (refine' Uc.Rs.holds_c ?jp ?jc ?_; (case jp => exact rfl); (case jc => first | omega | skip)))
      (first | (refine' Uc.Rs.holds_ok ?jp ?_; (case jp => exact rfl)) | (refine' Uc.Rs.holds_c ?jp ?jc ?_; (case jp => exact rfl); (case jc => first | omega | skip)))
      intro t6 t7
      dsimp only [PV.den]
      refine J.turn ((c :: t).drop pl.length, r / 30, y ++ [code], ws, wc, _, _, _) ⟨congrArg some (congrArg (Value.str · _) (slice_drop _ pl.length _ (congrArg (fun m : Nat => (m : Int)) hpl))), congrArg some (congrArg (Value.int · _) (fdiv_nat r 30)), rfl, rfl, trivial⟩ ⟨⟨k, by dsimp only; rw [List.length_drop, List.length_cons]; (walk_at "O"), by dsimp only; rw [g3]; simp⟩, g4, ?_, fun d hd => h4 d (List.mem_of_mem_drop hd), Nat.le_trans (Nat.div_le_self _ _) h5⟩ ?_
      · dsimp only; rw [List.length_drop, List.length_cons, List.length_append, List.length_singleton]; first | exact sub_s5 h3 g1 | exact sub_s5 h4 g1 | exact sub_s5 h5 g1 | exact sub_s5 (by assumption) g1 | (walk_at "O")
      · dsimp only; rw [List.length_drop, List.length_cons]; first | exact Nat.sub_lt (Nat.succ_pos _) g1 | exact sub_s4 (by assumption) g1 | (walk_at "O")
  · have hvl : vs.length = y.length := by
      have := StrsAre.length h2
      rw [this]; unfold chrs; rw [List.length_map]
    have h1' : typedOf x n = y := by
      cases t with
      | nil => rw [h1]; cases k <;> exact List.append_nil _
      | cons c t => exact absurd (show t.length + 1 = 0 from congrArg (fun x : Str => x.cps.size) (Classical.not_not.mp hp)) (Nat.succ_ne_zero _)
    have hy3 : y.length ≤ 3 := by omega
    clear h1 h3 h4 h5 hk hp
    have hpz : ((n : Int).fdiv 27).fmod ((vs.length : Int) + 1) = ((n / 27 % (y.length + 1) : Nat) : Int) := by
      rw [hvl]
      exact (congrArg (Int.fmod · ((y.length : Int) + 1)) (fdiv_nat n 27)).trans (fmod_nat _ (y.length + 1))
    have hpl : n / 27 % (y.length + 1) ≤ y.length := Nat.lt_succ_iff.mp (Nat.mod_lt _ (Nat.succ_pos _))
    have hs1 : StrsAre (slicePick vs.toArray none (some (((n : Int).fdiv 27).fmod ((vs.length : Int) + 1))) none).toList (chrs (y.take (n / 27 % (y.length + 1)))) := by
      rw [hpz, slicePick_upto _ _ (by rw [List.size_toArray]; (walk_at "O"))]
      have := StrsAre.take' h2 (n / 27 % (y.length + 1))
      unfold chrs at this ⊢
      rw [List.map_take]
      simpa using this
    have hs2 : StrsAre (slicePick vs.toArray (some (((n : Int).fdiv 27).fmod ((vs.length : Int) + 1))) none none).toList (chrs (y.drop (n / 27 % (y.length + 1)))) := by
      rw [hpz, slicePick_from _ _ (by rw [List.size_toArray]; (walk_at "O"))]
      have := StrsAre.drop' h2 (n / 27 % (y.length + 1))
      unfold chrs at this ⊢
      rw [List.map_drop]
      simpa using this
    have hl1 : (y.take (n / 27 % (y.length + 1))).length ≤ 3 := by rw [List.length_take]; exact Nat.le_trans (Nat.min_le_right _ _) hy3
    have hl2 : (y.drop (n / 27 % (y.length + 1))).length ≤ 3 := by rw [List.length_drop]; exact Nat.le_trans (Nat.sub_le _ _) hy3
    refine J.step ?_
    intro h tk F N
    dsimp only [Cx.sg] at F N ⊢
    repeat' (first | (walk_at "P") | (walk_at "F"; first | (((with_reducible show wpAny _ _ (call (Value.builtin "len") [Value.ref _]) _ _ _); refine kun_lenL (k := ((_ : List Value).length : Int)) (News.isList (by assumption) (by k_mem)) (by simp only [List.size_toArray]; rfl) (by (walk_at "O")) ?_)) | (walk_at "T")))
    refine J.next ?_ (by assumption) (News.sub (b := (l, listOf vs.toArray cnt) :: news) (by assumption) (by first | (intro _ h; first | exact h | exact .tail _ h | exact .tail _ (.tail _ h) | exact .tail _ (.tail _ (.tail _ h))) | ((with_reducible repeat (first | exact Uc.ledgR | refine Uc.ledgK ?_ | refine Uc.ledgD ?_)); done) | (intro _ h; simp only [List.mem_cons, List.mem_append, List.mem_singleton, List.not_mem_nil, or_false] at h ⊢; grind)))
    refine J.gen [(Str.ofString "kind", .int ((n : Int).fmod 27) _), (Str.ofString "place", .int (((n : Int).fdiv 27).fmod ((vs.length : Int) + 1)) _), (Str.ofString "typed", .ref l), (Str.ofString "number", .int (n : Int) t3)] ⟨rfl, rfl, rfl, rfl, trivial⟩ fun u => ?_
    have hk27 : (n : Int).fmod 27 = ((n % 27 : Nat) : Int) := fmod_nat n 27
    have hk27' : n % 27 < 27 := Nat.mod_lt _ (by decide)
    refine' J.asg_c tb0 ?jp rfl ?js ?jc fun t8 => ?_
    case jp => exact rfl
    case js => exact rfl
    case jc =>
      rw [hk27]
      refine ⟨fun h => ⟨by decide, ?_, ?_⟩, fun h => ?_⟩
      · show -((11 : Nat) : Int) ≤ _; omega
      · show _ < ((11 : Nat) : Int); omega
      · omega
    dsimp only [PV.den]
    have hsg : (@ite Str ((n : Int).fmod 27 < 11) (Classical.propDecidable _) (Txt.item (Str.ofString "\u00ad\u034f\u1806\u180b\u180c\u180d\u200b\u200c\u200d\u2060\ufeff") ((n : Int).fmod 27)) ⟨#[(65013 + (n : Int).fmod 27).toNat]⟩) = ⟨[signOf n].toArray⟩ := by
      split
      · exact sign_lo n (by assumption)
      · exact sign_hi n (by assumption)
    rw [hsg]
    clear hsg hk27
    refine J.step ?_
    intro h tk F N
    dsimp only [Cx.sg] at F N ⊢
    repeat' (first | (walk_at "P") | (walk_at "F"; first | ((with_reducible show wpAny _ _ (callWith _ (Value.builtin _) _ _ _) _ _ _); dsimp only; first | ((with_reducible show wpAny _ _ (callWith _ (Value.builtin "list.append") _ _ _) _ _ _); refine callWith_method1 ?_) | ((with_reducible show wpAny _ _ (callWith _ (Value.builtin "str.join") _ _ _) _ _ _); refine callWith_method1 ?_)) | ((with_reducible show wpAny _ _ (binaryOp Operator.Add (Value.str _ _) (Value.str _ _)) _ _ _); (dsimp only; (try rw [Uc.ws_item]); refine SB.add ?_ (by first | exact Uc.add_fits2 (by (try simp only [List.length_append, List.length_cons, List.length_nil]); (walk_at "O")) (by (try simp only [List.length_append, List.length_cons, List.length_nil]); (walk_at "O")) | exact Uc.fits_c (by decide) (by rw [Uc.len_mk]; (try simp only [List.length_append, List.length_cons, List.length_nil]); (walk_at "O")) | exact Uc.fits_d (by decide) (by rw [Uc.len_mk]; (try simp only [List.length_append, List.length_cons, List.length_nil]); (walk_at "O"))); intro _ _; first | rw [Uc.appQ1] | rw [Uc.appQ2] | rw [Uc.appB] | rw [Uc.app2])) | (((with_reducible show wpAny _ _ (call (Value.builtin _) [Value.str _ _, Value.ref _]) _ _ _); refine join_listW (News.isList (by assumption) (by k_mem)) (by assumption) (by decide) (Uc.chrs_w (by (walk_at "O"))) ?_; intro _ _; rw [Uc.join_chrs])) | (walk_at "T")))
    rename Fr _ _ _ _ => F5
    rw [raw_is h1'] at F5
    have hrl := raw_len (n := n) (x := x) (by rw [h1']; exact hy3)
    have hrl2 := len_mk (rawOf x n)
    refine J.next ?_ F5 (News.sub (b := (l, listOf vs.toArray cnt) :: news) (by assumption) (by first | (intro _ h; first | exact h | exact .tail _ h | exact .tail _ (.tail _ h) | exact .tail _ (.tail _ (.tail _ h))) | ((with_reducible repeat (first | exact Uc.ledgR | refine Uc.ledgK ?_ | refine Uc.ledgD ?_)); done) | (intro _ h; simp only [List.mem_cons, List.mem_append, List.mem_singleton, List.not_mem_nil, or_false] at h ⊢; grind)))
    clear hs1 hs2 hl1 hl2 hpz hpl F5
    refine J.gen [(Str.ofString "raw", .str ⟨(rawOf x n).toArray⟩ _), (Str.ofString "number", .int (n : Int) t3)] ⟨rfl, rfl, trivial⟩ fun u => ?_
    refine J.iteJ (σ := List Nat × Tok) (fun _ => (l, listOf vs.toArray cnt) :: news) (fun c => [(Str.ofString "raw", .str ⟨c.1.toArray⟩ c.2), (Str.ofString "number", .int (n : Int) t3)]) (fun c => c.1.length ≤ 8 ∧ spelled x n = c.1 ++ [wsS.getD (n / 21 % 4) 0]) tb0 ?g1 ?g2
    case g1 =>
      (first | (refine' Uc.Bs.holds_ok ?jp ?_; (case jp => exact rfl)) | (refine' Uc.Bs.holds_c ?jp ?jc ?_; (case jp => exact rfl); (case jc => first | omega | skip)))
      refine ⟨fun h70 => ?_, fun h70 => ?_⟩
      · intro C1
        refine' J.asg_c tb0 ?jp rfl ?js ?jc fun t9 => ?_
        case jp => exact rfl
        case js => exact rfl
        case jc =>
          rw [appQ1, len_mk (34 :: 92 :: rawOf x n), hrl2]
          exact ⟨show 2 + _ ≤ _ by omega, show _ + 1 ≤ _ by rw [List.length_cons, List.length_cons]; omega⟩
        dsimp only [PV.den]
        rw [appQ1, appQ2]
        exact J.jl (_, _) rfl ⟨rfl, rfl, trivial⟩ ⟨by simp only [List.length_append, List.length_cons, List.length_nil]; omega, spelled_0 ((seven n 0).mp h70)⟩
      · intro C1
        refine ite_go tb0 ?_
        (first | (refine' Uc.Bs.holds_ok ?jp ?_; (case jp => exact rfl)) | (refine' Uc.Bs.holds_c ?jp ?jc ?_; (case jp => exact rfl); (case jc => first | omega | skip)))
        refine ⟨fun h71 => ?_, fun h71 => ?_⟩
        · refine J.step ?_
          intro h tk F N
          dsimp only [Cx.sg] at F N ⊢
          repeat' (first | (walk_at "P") | (walk_at "F"; first | ((with_reducible show wpAny _ _ (callWith _ (Value.builtin _) _ _ _) _ _ _); dsimp only; first | ((with_reducible show wpAny _ _ (callWith _ (Value.builtin "list.append") _ _ _) _ _ _); refine callWith_method1 ?_) | ((with_reducible show wpAny _ _ (callWith _ (Value.builtin "str.join") _ _ _) _ _ _); refine callWith_method1 ?_)) | ((with_reducible show wpAny _ _ (eval (PySem.Expr.ListComp _ _ _ _) _) _ _ _); (k_dflt (refine Uc.comp_str (by rfl) (by decide) (by rfl) (by decide) (by rfl) ?_))) | (walk_at "T")))
          rename Fr _ _ _ _ => F7
          rename News _ _ _ _ => N7
          refine Uc.ei7 _ _ _ (⟨(rawOf x n).toArray⟩) _ _ (fun i ys nw => nw = (l, listOf vs.toArray cnt) :: news ∧ StrsAre ys (((rawOf x n).take i).map esc1)) ⟨rfl, rfl, F7, News.sub N7 (by first | (intro _ h; first | exact h | exact .tail _ h | exact .tail _ (.tail _ h) | exact .tail _ (.tail _ (.tail _ h))) | ((with_reducible repeat (first | exact Uc.ledgR | refine Uc.ledgK ?_ | refine Uc.ledgD ?_)); done) | (intro _ h; simp only [List.mem_cons, List.mem_append, List.mem_singleton, List.not_mem_nil, or_false] at h ⊢; grind)), by rw [hrl2]; (walk_at "O"), ⟨rfl, .nil⟩, ?T, ?fin⟩
          case T =>
            rintro g i v ys nw I oI C oC D m₂ h tk E' hi ⟨c, t, hc, rfl⟩ ⟨rfl, hR⟩ - hoC hm2 F N off ⟨d1, d2, d3⟩
            refine wpAny_tests_nil ?_
            simp only [if_true]
            repeat' (first | (walk_at "P") | (walk_at "F"; first | ((with_reducible show wpAny _ _ (binaryOp Operator.Add (Value.str _ _) (Value.str _ _)) _ _ _); (dsimp only; (try rw [Uc.ws_item]); refine SB.add ?_ (by first | exact Uc.add_fits2 (by (try simp only [List.length_append, List.length_cons, List.length_nil]); (walk_at "O")) (by (try simp only [List.length_append, List.length_cons, List.length_nil]); (walk_at "O")) | exact Uc.fits_c (by decide) (by rw [Uc.len_mk]; (try simp only [List.length_append, List.length_cons, List.length_nil]); (walk_at "O")) | exact Uc.fits_d (by decide) (by rw [Uc.len_mk]; (try simp only [List.length_append, List.length_cons, List.length_nil]); (walk_at "O"))); intro _ _; first | rw [Uc.appQ1] | rw [Uc.appQ2] | rw [Uc.appB] | rw [Uc.app2])) | (walk_at "T")))
            have hcl : (rawOf x n)[i]? = some c := by simpa using hc
            refine TurnC.mk ((l, listOf vs.toArray cnt) :: news) (by assumption) (by assumption) (fun _ h => h) off ⟨trivial, rfl, ?_⟩
            rw [List.take_succ, hcl, List.map_append]
            exact StrsAre.append' hR (.cons _ _ .nil)
          case fin =>
            rintro D h tk ys nw ⟨rfl, hR⟩ F N o1
            rw [hrl2, List.take_of_length_le (Nat.le_refl _)] at hR
            repeat' (first | (walk_at "P") | (walk_at "F"; walk_at "T"))
            refine join_listW (ys := (rawOf x n).map esc1) (News.isList N (.head _)) hR (Nat.zero_le _) (esc_w (by (walk_at "O"))) ?_
            intro t' k'
            rw [join_esc]
            have hfl : ((rawOf x n).map fun c => [92, c]).flatten.length ≤ 8 := by
              have e : ∀ l : List Nat, (l.map fun c => [92, c]).flatten.length = 2 * l.length := fun l => by
                induction l with
                | nil => rfl
                | cons c l ih => simp only [List.map_cons, List.flatten_cons, List.length_append, ih, List.length_cons, List.length_nil]; (walk_at "O")
              rw [e]; (walk_at "O")
            repeat' (first | (walk_at "P") | (walk_at "F"; walk_at "T"))
            refine J.next ?_ (by assumption) (News.sub (b := (l, listOf vs.toArray cnt) :: news) (by assumption) (by first | (intro _ h; first | exact h | exact .tail _ h | exact .tail _ (.tail _ h) | exact .tail _ (.tail _ (.tail _ h))) | ((with_reducible repeat (first | exact Uc.ledgR | refine Uc.ledgK ?_ | refine Uc.ledgD ?_)); done) | (intro _ h; simp only [List.mem_cons, List.mem_append, List.mem_singleton, List.not_mem_nil, or_false] at h ⊢; grind)))
            refine J.nil ?_
            exact J.jl (_, _) rfl ⟨rfl, rfl, trivial⟩ ⟨hfl, spelled_1 ((seven n 1).mp h71)⟩
        · refine J.nil ?_
          exact J.jl (_, _) rfl ⟨rfl, rfl, trivial⟩ ⟨Nat.le_trans hrl (by decide), spelled_2 (fun e => h70 ((seven n 0).mpr e)) (fun e => h71 ((seven n 1).mpr e))⟩
    case g2 =>
      refine fpLooR fun R t9 => ?_
      intro u hR
      obtain ⟨hR8, hsp⟩ := hR
      dsimp only at hR8 hsp ⊢
      refine' J.ret_c tb0 ?jp ?jc ?_
      case jp => exact rfl
      case jc =>
        have q21 : ((n : Int).fdiv 21).fmod 4 = ((n / 21 % 4 : Nat) : Int) := (congrArg (Int.fmod · 4) (fdiv_nat n 21)).trans (fmod_nat _ 4)
        have hw4 : n / 21 % 4 < 4 := Nat.mod_lt _ (by decide)
        rw [ws_item, q21, len_mk]
        refine ⟨⟨⟨⟨by decide, by decide⟩, by decide, by decide⟩, by decide, ?_, ?_⟩, ?_⟩
        · show -((4 : Nat) : Int) ≤ _; omega
        · show _ < ((4 : Nat) : Int); omega
        · show R.length + 1 ≤ _; omega
      dsimp only [PV.den]
      rw [ws_item, app2, ← hsp]
      intro t h tk F N
      exact ret ⟨rfl, _, rfl⟩ F (News.sub N fun _ h => .tail _ h)
end
end Uc
end
section
namespace Uc
open PyProof.Rows.LCg
noncomputable def spells (nums : List Nat) : List (List Nat) := nums.map fun n => spelled (nameOf n) (n / 192)
theorem getD_map {α β : Type} {f : α → β} {l : List α} {j : Nat} {a : α} (h : l[j]? = some a) (d : β) : (l.map f).getD (j : Int).toNat d = f a := by
  rw [Int.toNat_natCast, List.getD_eq_getElem?_getD, List.getElem?_map, h]; rfl
theorem size_is (a : Int) : ∃ sz : Nat, 2 ≤ sz ∧ sz ≤ 4 ∧ 2 + a.fmod 3 = (sz : Int) := by
  rw [Int.fmod_eq_emod_of_nonneg _ (by decide)]
  have := Int.emod_lt_of_pos a (show (0 : Int) < 3 by decide)
  have := Int.emod_nonneg a (show (3 : Int) ≠ 0 by decide)
  exact ⟨(2 + a % 3).toNat, by (walk_at "O"), by (walk_at "O"), by (walk_at "O")⟩
theorem spells_take {nums : List Nat} {j n : Nat} {zs : List Value} {t : Tok} (h : nums[j]? = some n) (hs : StrsAre zs ((spells (nums.take j)).map mkS)) : StrsAre (zs ++ [.str (mkS (spelled (nameOf n) (n / 192))) t]) ((spells (nums.take (j + 1))).map mkS) := by
  rw [List.take_add_one, h]
  unfold spells at hs ⊢
  show StrsAre _ (List.map mkS (List.map _ (_ ++ [n])))
  rw [List.map_append, List.map_append]
  exact StrsAre.append' hs (.cons _ _ .nil)
theorem updF_front {c : Addr} {o : Obj} {l : Led} {g : Obj → Led} (U : UpdF c o l g) : ∀ {front : Led}, (∀ p ∈ front, p.1 ≠ c) → UpdF c o (front ++ l) (fun o' => front ++ g o')
  | [], _ => U
  | p :: front, h => .tail (h p (.head _)) (updF_front U fun q hq => h q (.tail _ hq))
theorem spell_len : ∀ (k : Nat) (x : List Nat) (r : Nat), (spell k x r).length ≤ x.length
  | 0, _, _ => Nat.zero_le _
  | k + 1, [], _ => Nat.zero_le _
  | k + 1, c :: t, r => by
    rw [spell_eq]
    have a := fun j => spell_len k ((c :: t).drop j) (r / 30)
    have b := spell_len k t (r / 30)
    have len3 : ∀ (j : Nat) (P : List Nat), (c :: t).take (3 - r % 3) = P → P.length = j → j ≤ (c :: t).length := fun j P e hl => by
      rw [← hl, ← e, List.length_take]; exact Nat.min_le_right _ _
    split
    · rename_i e
      have := len3 3 _ e rfl
      have := a 3
      rw [List.length_drop] at this
      simp only [List.length_cons] at *
      (walk_at "O")
    split
    · rename_i e
      have := len3 2 _ e rfl
      have := a 2
      rw [List.length_drop] at this
      simp only [List.length_cons] at *
      (walk_at "O")
    split
    · rename_i e
      have := len3 2 _ e rfl
      have := a 2
      rw [List.length_drop] at this
      simp only [List.length_cons] at *
      (walk_at "O")
    · simp only [List.length_cons] at *
      (walk_at "O")
theorem raw_le (x : List Nat) (n : Nat) : (rawOf x n).length ≤ x.length + 1 := by
  have h := spell_len x.length x n
  unfold rawOf typedOf
  rw [List.length_append, List.length_cons, List.length_take, List.length_drop]
  generalize n / 27 % ((spell x.length x n).length + 1) = k
  have h2 : min k (spell x.length x n).length + ((spell x.length x n).length - k) ≤ (spell x.length x n).length := (Nat.le_total k (spell x.length x n).length).elim (fun q => by rw [Nat.min_eq_left q, Nat.add_sub_cancel' q]; exact Nat.le_refl _) fun q => by rw [Nat.sub_eq_zero_of_le q]; exact Nat.min_le_right _ _
  exact Nat.succ_le_succ (Nat.le_trans h2 h)
theorem esc_len : ∀ l : List Nat, (l.map fun c => [92, c]).flatten.length = 2 * l.length
  | [] => rfl
  | c :: l => by
    have := esc_len l
    simp only [List.map_cons, List.flatten_cons, List.length_append, List.length_cons, List.length_nil] at *
    (walk_at "O")
theorem spelled_len (x : List Nat) (n : Nat) (h : x.length ≤ 3) : (spelled x n).length ≤ 9 := by
  unfold spelled quoted
  have := raw_le x n
  rw [List.length_append]
  split
  · simp only [List.length_cons, List.length_append, List.length_nil]; (walk_at "O")
  split
  · rw [esc_len]; simp only [List.length_cons, List.length_nil]; (walk_at "O")
  · simp only [List.length_cons, List.length_nil]; (walk_at "O")
theorem name_len3 (n : Nat) : (nameOf n).length ≤ 3 := by rw [nameOf_len]; (walk_at "O")
theorem name_chr {n c : Nat} (h : c ∈ nameOf n) : c = 102 ∨ c = 105 ∨ c = 70 ∨ c = 73 := by
  unfold nameOf at h
  obtain ⟨p, _, rfl⟩ := List.mem_map.mp h
  have hz : n / 3 / 4 ^ p % 4 < 4 := Nat.mod_lt _ (by decide)
  generalize n / 3 / 4 ^ p % 4 = z at hz
  revert z
  decide
theorem spells_flat (nums : List Nat) : (spells nums).flatten.length ≤ 9 * nums.length := by
  induction nums with
  | nil => exact Nat.le_refl _
  | cons n l ih =>
    have h1 := spelled_len (nameOf n) (n / 192) (name_len3 n)
    unfold spells at ih ⊢
    rw [List.map_cons, List.flatten_cons, List.length_append, List.length_cons]
    (walk_at "O")
theorem join_flat (ls : List (List Nat)) : Txt.join (Str.ofString "") (ls.map mkS) = mkS ls.flatten := by
  rw [show Txt.join (Str.ofString "") (ls.map mkS) = Str.join (Str.ofString "") (ls.map mkS) from eq_of_beq (join_plain_closes _ _)]
  induction ls with
  | nil => rfl
  | cons c l ih =>
    cases l with
    | nil =>
      show mkS c = mkS (c ++ [])
      rw [List.append_nil]
    | cons d l =>
      show mkS c ++ Str.ofString "" ++ Str.join (Str.ofString "") ((d :: l).map mkS) = _
      rw [ih, show Str.ofString "" = (⟨([] : List Nat).toArray⟩ : Str) from by rfl]
      unfold mkS
      rw [app2, app2, List.append_nil, ← List.flatten_cons]
theorem mkS_len (l : List Nat) : (mkS l).length = l.length := by show l.toArray.size = _; simp
theorem spells_w (nums : List Nat) (h : nums.length ≤ 1000) : (((spells nums).map mkS).map (·.length)).sum + ((spells nums).map mkS).length ≤ 1048576 := by
  have key : ∀ l : List Nat, (((spells l).map mkS).map (·.length)).sum ≤ 9 * l.length := fun l => by
    induction l with
    | nil => exact Nat.le_refl _
    | cons n l ih =>
      have h1 := spelled_len (nameOf n) (n / 192) (name_len3 n)
      unfold spells at ih ⊢
      rw [List.map_cons, List.map_cons, List.map_cons, List.sum_cons, List.length_cons, mkS_len]
      (walk_at "O")
  have := key nums
  have e : ((spells nums).map mkS).length = nums.length := by unfold spells; rw [List.length_map, List.length_map]
  (walk_at "O")
section
variable (w : World) (p : Program) (loose : List Str) (mean : ExcName → Option Value) (mg mb : Str → Option Value)
theorem seg3 {h₀ : Heap} {L fa : Addr} {cd : Value} {s : Shared} {Q : Flow → Shared → Prop} {E : Value → Shared → Prop} {m : Str → Option Value} {A₀ : Around} {base : Heap} {outer : List Env} {dp un : Nat} {gd : Option (List Code)} (B : Below A₀ base outer h₀) (hpre : CodeHd base 213 209) (hdp : dp + 30 < recursionLimit) (hun : un + 120 < cLine) (X : (K w.params).In h₀) (T : Top p loose mean mg mb h₀)
    {o3 o4 o5 : Obj} {Ml Nl : Addr} {ys zs : List Value} {nums : List Nat} (d3 : o3.data = .cell (some (.ref Ml))) (d4 : o4.data = .cell (some (.ref Nl))) (hn : nums.length = 5) (hb : ∀ n ∈ nums, n < 1000000) (hI : IntsAre ys (nums.map fun (n : Nat) => (n : Int)))
    (hS : StrsAre zs (nums.map fun n => mkS (nameOf n)))
    (F : Fr h₀ L s.heap m) (N : News h₀ L s.heap [(Nl, lst zs), (Ml, lst ys), (L + 5, o5), (L + 4, o4), (L + 3, o3), (209, tabObj #[])])
    (ret : ∀ h' tk' m' sz ts tt, 2 ≤ sz → sz ≤ 4 → Has m' [(Str.ofString "size", .int ((sz : Nat) : Int) ts), (Str.ofString "text", .str (mkS (spells nums).flatten) tt)] → Fr h₀ L h' m' → News h₀ L h' [(Nl, lst zs), (Ml, lst ys), (L + 5, o5), (L + 4, o4), (L + 3, o3), (209, tabObj #[])] → Q .next { s with heap := h', toks := tk' }) :
    wpAny (model Pm w) (lawA dp un gd outer L fa cd) (execs [ls3, ls4] (lawEnv L fa cd)) Q E s := by
  revert X
  dsimp only [Pm]
  k_fill
  intro X
  unfold ls3 ls4
  dsimp only [lawEnv, lawA, lawCl]
  have hyl : ys.length = 5 := by rw [intsAre_len hI, List.length_map, hn]
  have hzl : zs.length = 5 := by rw [StrsAre.length hS, List.length_map, hn]
  repeat' (first | (walk_at "P") | (walk_at "F"; first | ((with_reducible show wpAny _ _ (callWith _ (Value.builtin _) _ _ _) _ _ _); dsimp only; first | ((with_reducible show wpAny _ _ (callWith _ (Value.builtin "list.append") _ _ _) _ _ _); refine callWith_method1 ?_) | ((with_reducible show wpAny _ _ (callWith _ (Value.builtin "str.join") _ _ _) _ _ _); refine callWith_method1 ?_)) | ((with_reducible show wpAny _ _ (eval (PySem.Expr.ListComp _ _ _ _) _) _ _ _); (k_dflt (first | (refine Uc.comp_range (by rfl) (by decide) (by rfl) (by decide) (by rfl) ?_) | (refine Uc.comp_listX (by rfl) (fun _ => by rfl) (fun _ => by rfl) (by rfl) (by decide) (by rfl) ?_)))) | (walk_at "T")))
  rename Fr _ _ _ _ => F9
  rename News _ _ _ _ => N9
  refine Uc.ei11 _ _ _ _ _ _ _ _ 5 _ (fun j zs2 nw => nw = [(Nl, lst zs), (Ml, lst ys), (L + 5, o5), (L + 4, o4), (L + 3, o3), (209, tabObj #[])] ∧ StrsAre zs2 ((spells (nums.take j)).map mkS)) ⟨rfl, rfl, F9, N9, by assumption, rfl, by decide, ⟨rfl, .nil⟩, ?T, ?fin⟩
  case T =>
    clear F9 N9
    rintro g2 j vj zs2 nw I2 oI2 C2 oC2 D2 m3 h2 tk2 E2 hj ⟨tj, rfl⟩ ⟨rfl, hS2⟩ _ hoC2 hmj F N off2 ⟨d1', d2', d3'⟩
    refine wpAny_tests_nil ?_
    simp only [if_true]
    repeat' (first | (walk_at "P") | (walk_at "F"; walk_at "T"))
    obtain ⟨n, hnj⟩ : ∃ n, nums[j]? = some n := ⟨_, List.getElem?_eq_getElem (by (walk_at "O"))⟩
    have hn6 : n < 1000000 := hb n (List.mem_of_getElem? hnj)
    rw [getD_map hnj, getD_map hnj, show ((n : Int)).fdiv 192 = ((n / 192 : Nat) : Int) from fdiv_nat n 192]
    (refine spell_c w p loose mean mg mb _ (nameOf n) _ _ (n / 192) (name_len3 n) (fun c h => name_chr h) (by (walk_at "O")) _ _ _ _ _ _ _ _ _ _ _ _ _ _ _ _ _ (by assumption) (by assumption) (by assumption) (by assumption) (by assumption) (by first | assumption | rfl) ?pre (by first | assumption | exact Uc.room3 (by assumption) (by decide) | exact Uc.room2 (by assumption) (by decide) | ktr_room) (by first | assumption | exact Uc.room3 (by assumption) (by decide) | exact Uc.room2 (by assumption) (by decide) | ktr_units) ?_); (case pre => first | exact trivial | assumption)
    refine kEn1v ?_
    intro t' h' tk' F N
    repeat' (first | (walk_at "P") | (walk_at "F"; walk_at "T"))
    exact TurnC.mk _ (by assumption) (by assumption) (fun _ h => h) off2 ⟨trivial, rfl, spells_take hnj hS2⟩
  case fin =>
    clear F9 N9
    rintro D2 h2 tk2 zs2 nw ⟨rfl, hS2⟩ F N o2
    repeat' (first | (walk_at "P") | (walk_at "F"; walk_at "T"))
    rw [List.take_of_length_le (by (walk_at "O"))] at hS2
    refine join_listW (ys := (spells nums).map mkS) (News.isList N (.head _)) hS2 (by decide) (spells_w nums (by (walk_at "O"))) ?_
    intro t9 tk9
    rw [join_flat]
    repeat' (first | (walk_at "P") | (walk_at "F"; walk_at "T"))
    rename Fr _ _ _ _ => F5
    obtain ⟨sz, z1, z2, e⟩ := size_is (nums.map fun (n : Nat) => (n : Int)).sum
    rw [e] at F5
    exact ret _ _ _ sz _ _ z1 z2 ⟨rfl, rfl, trivial⟩ F5 (News.sub (by assumption) (by first | (intro _ h; first | exact h | exact .tail _ h | exact .tail _ (.tail _ h) | exact .tail _ (.tail _ (.tail _ h))) | ((with_reducible repeat (first | exact Uc.ledgR | refine Uc.ledgK ?_ | refine Uc.ledgD ?_)); done) | (intro _ h; simp only [List.mem_cons, List.mem_append, List.mem_singleton, List.not_mem_nil, or_false] at h ⊢; grind)))
end
end Uc
end
section
namespace Uc
theorem lpm {α : Type} {a : α} {l L : List α} (ha : a ∈ L) (h : ∀ p ∈ l, p ∈ L) : ∀ p ∈ a :: l, p ∈ L := fun p hp => (List.mem_cons.mp hp).elim (fun e => e ▸ ha) (h p)
theorem lexPerm {α : Type} {a0 a1 a2 a3 a4 a5 a6 a7 a8 a9 : α} {t : List α} : ∀ p ∈ a1 :: a2 :: a0 :: a6 :: a3 :: a4 :: a5 :: a9 :: a8 :: t, p ∈ a0 :: a1 :: a2 :: a3 :: a4 :: a5 :: a6 :: a7 :: a8 :: a9 :: t :=
  lpm (.tail _ (.head _)) (lpm (.tail _ (.tail _ (.head _))) (lpm (.head _) (lpm (.tail _ (.tail _ (.tail _ (.tail _ (.tail _ (.tail _ (.head _))))))) (lpm (.tail _ (.tail _ (.tail _ (.head _)))) (lpm (.tail _ (.tail _ (.tail _ (.tail _ (.head _))))) (lpm (.tail _ (.tail _ (.tail _ (.tail _ (.tail _ (.head _)))))) (lpm (.tail _ (.tail _ (.tail _ (.tail _ (.tail _ (.tail _ (.tail _ (.tail _ (.tail _ (.head _)))))))))) (lpm (.tail _ (.tail _ (.tail _ (.tail _ (.tail _ (.tail _ (.tail _ (.tail _ (.head _))))))))) (fun _ h => .tail _ (.tail _ (.tail _ (.tail _ (.tail _ (.tail _ (.tail _ (.tail _ (.tail _ (.tail _ h))))))))))))))))))
theorem lex_pack (w : World) {h₀ h : Heap} {L PB X D SD RF RC SF c1 SG CC : Addr} {fd : FuncData} {pm ct : Value} {oc oC o1 : Obj} {tw k0 k1 k2 k3 kr tl : Tok} {vc : Array Value} {tq : Tok} (hc1 : oc.data = .fields vc) (hc2 : vc[1]? = some (.str rdQual tq)) {tps : Array Value} {news : List (Addr × Obj)} {ss : List Value} {sn pn : Nat}
    (N : News h₀ L h ((PB, listOf #[] pn) :: (X, instObj 73 D) :: (D, dictOf [{ hash := PyData.keyHash w.params (Str.ofString "lineno"), key := Value.str (Str.ofString "lineno") k0, val := .int 1 tl },
    { hash := PyData.keyHash w.params (Str.ofString "instream"), key := Value.str (Str.ofString "instream") k1, val := .ref SF },
    { hash := PyData.keyHash w.params (Str.ofString "whitespace"), key := Value.str (Str.ofString "whitespace") k2, val := .str (Str.ofString "\n\t\r ") tw },
    { hash := PyData.keyHash w.params (Str.ofString "pushback"), key := Value.str (Str.ofString "pushback") k3, val := .ref PB }] 4) ::
    (SD, dictOf [{ hash := PyData.keyHash w.params (Str.ofString "read"), key := Value.str (Str.ofString "read") kr, val := .ref RF }] 1) :: (RF, rdO pm CC RC ct) :: (RC, oc) :: (SF, fnO fd (some SD)) :: (c1, o1) :: (SG, listOf ss.toArray sn) :: (CC, oC) :: (209, tabObj tps) :: news)) :
    News h₀ L h (lexLed w ⟨X, D, PB, SF, SD, RF, RC, CC, SG, fd, pm, ct, oc, oC, vc, tq, tw, k0, k1, k2, k3, kr⟩ 1 tl [] pn ss sn ++ (209, tabObj tps) :: news) := News.sub N lexPerm
section
variable (w : World) (p : Program) (loose : List Str) (mean : ExcName → Option Value) (mg mb : Str → Option Value)
theorem lexer_make (news : List (Addr × Obj)) (x : Str) (tx : Tok) (hx : x.length ≤ 1000) (hn0 : ∀ q ∈ news, q.1 ≠ 209) :
    Con w p loose mean mg mb 214 12 40 [.str x tx] ((209, tabObj #[]) :: news) (fun h => CodeHd h 213 209) (fun v n => ∃ q tl pn ss sn tps, n = lexLed w q 1 tl [] pn ss sn ++ (209, tabObj tps) :: news ∧ v = .ref q.X ∧ StrsAre ss (chrs x.cps.toList) ∧ LexOk q ((209, tabObj tps) :: news) ∧ AllLt q.CC ((209, tabObj tps) :: news)) := by
  dsimp only [Con, Pm]
  k_fill
  intros
  rename_i hret
  refine wpAny_call ?_
  k_dflt (refine' code_defC ?k1 ?k2 ?k3 ?k4 ?k5 ?kA ?kF ?kK ?k6 ?k7 ?k8 ?k9 ?kB ?kD ?_ ?c2 ?c3 ?c4; (case kA => exact rfl); (case kF => exact rfl); (case kK => assumption); (case k1 => k_asm); (case k2 => k_asm); (case k3 => k_asm); (case k4 => k_asm); (case k5 => k_asm); (case k6 => k_is); (case k7 => k_is); (case k8 => ktr_room); (case k9 => exact BindsTo.of_eq rfl); (case kB => exact rfl); (case kD => decide +kernel); (case c2 => exact rfl); (case c3 => exact rfl); (case c4 => exact rfl); k_whole; intro g' L' h' tk' cells' FG' F' N' Y' B' X' T' l1; (try k_lt l1); k_cells Y'; (try simp only [List.cons_append, List.nil_append] at N'); (try dsimp only); (try k_lift B'); (try k_fold))
  rename (209 < L' ∧ AllLt L' news) => l9
  have hNL : AllLt L' news := l9.2
  have hn1 : ∀ q ∈ news, q.1 ≠ L' + 1 := fun q hq => Nat.ne_of_lt (Nat.lt_succ_of_lt (allLt_all l9.2 q hq))
  repeat' (first | (walk_at "P") | (walk_at "F"; first | (((with_reducible show wpAny _ _ (setAttr (Value.ref _) (Str.ofString "read") _) _ _ _); k_dflt (refine' Uc.fn_setattrU ?F ?N ?U Uc.fn_noread ?_; (case F => k_asm); (case N => k_asm); (case U => k_updF); k_whole); intro h' d' F' N' hAll; (have l1 := allLt_of hAll); clear hAll; (try dsimp only [AllLt] at l1); (try dsimp only at N'); (try k_sweep))) | (((with_reducible show wpAny _ _ (call (Value.type _) [Value.str _ _]) _ _ _); (refine Uc.list_strK rfl (by assumption) (by assumption) (by (walk_at "O")) ?_); intro h' tk' vs' cnt' l' F' N' hAll hStrs; (have l1 := allLt_of hAll); clear hAll; (try dsimp only [AllLt] at l1))) | (walk_at "T")))
  k_dflt (refine' call_cls ?k1 ?k2 ?k3 ?k4 ?k5 ?k6 ?_; (case k1 => k_asm); (case k2 => k_asm); (case k3 => k_asm); (case k4 => k_is); (case k5 => k_is); (case k6 => k_is); k_whole)
  intro x' d' h' F' N' l1 l2
  (try k_lt l1); (try k_lt2 l2); (try k_sweep)
  k_dflt (refine' code_def ?k1 ?k2 ?k3 ?k4 ?k5 ?kA ?kF ?kK ?k6 ?k7 ?k8 ?k9 ?kB ?_ ?c2 ?c3 ?c4 ?c5; (case kA => exact rfl); (case kF => exact rfl); (case kK => exact rfl); (case k1 => k_asm); (case k2 => k_asm); (case k3 => k_asm); (case k4 => k_asm); (case k5 => k_asm); (case k6 => k_is); (case k7 => k_is); (case k8 => ktr_room); (case k9 => exact BindsTo.of_eq rfl); (case c5 => decide); (case kB => exact locs rfl); (case c2 => exact rfl); (case c3 => exact rfl); (case c4 => exact rfl); k_whole; intro g2' L2' h2' FG2' F2' N2' B2' X2' T2'; (try dsimp only); (try k_lift B2'); (try k_fold))
  repeat' (first | (walk_at "P") | (walk_at "F"; walk_at "T"))
  rename News _ _ _ (_ :: _ :: _ :: _ :: _ :: _ :: _ :: _ :: _ :: _ :: _ :: news) => kN
  rename (_ = Data.cell (some _)) => c3
  rename (_ = Data.fields _) => c1
  rename (_ = some (Value.str (_ ++ Str.ofString "<lambda>") _)) => c2
  rename (_ < _ ∧ _ < _ ∧ _ < _ ∧ _ < _ ∧ _ < _ ∧ _ < _ ∧ _ < _ ∧ _ < _ ∧ _ < _ ∧ 209 < _ ∧ AllLt _ news) => lz
  have ltA : AllLt (L' + 1) news := allLt_of fun q hq => Nat.lt_succ_of_lt (allLt_all (show AllLt L' news from hNL) q hq)
  have lt212 : @LT.lt Nat _ 209 (L' + 1) := by have := ltN l9.1; (walk_at "O")
  rename StrsAre _ (signs x) => hStrs
  have ltL : ∀ o : Obj, AllLt (L' + 1) ((209, o) :: news) := fun o => ⟨lt212, ltA⟩
  refine hret _ _ _ _ ?R (by assumption) (lex_pack w c1 c2 kN)
  refine Uc.ei6 _ _ _ _ _ _ ⟨rfl, rfl, hStrs, ⟨c1, c2, c3, ?_, ?_, ?_, ?_, ?_, ?_, ?_, ?_, ?_, ?_, ?_⟩, ltL _⟩
  all_goals (try dsimp only)
  all_goals first | (refine ltN ?_; (walk_at "O")) | (refine allLt_ne2 (ltL _) ?_; (try dsimp only); (walk_at "O"))
end
end Uc
end
section
namespace Uc
open PyProof.Rows.LCg
theorem lex_ne {w : World} {q : Lex} {ln : Int} {tl : Tok} {ps ss : List Value} {pn sn : Nat} {news : Led} (ok : LexOk q news) (lt : AllLt q.CC news) {c : Addr} {o : Obj} (hc : (c, o) ∈ news) : ∀ p ∈ lexLed w q ln tl ps pn ss sn, p.1 ≠ c := fun p hp => by
  have h0 : c < q.CC := allLt_all lt _ hc
  have o1 := ok.o1
  have o2 := ok.o2
  have o3 := ok.o3
  have o4 := ok.o4
  have o5 := ok.o5
  have o6 := ok.o6
  have o7 := ok.o7
  have o8 := ok.o8
  have a1 := Nat.lt_trans h0 o1
  have a2 := Nat.lt_trans a1 o2
  have a3 := Nat.lt_trans a2 o3
  have a4 := Nat.lt_trans a3 o4
  have a5 := Nat.lt_trans a4 o5
  have a6 := Nat.lt_trans a5 o6
  have a7 := Nat.lt_trans a6 o7
  have a8 := Nat.lt_trans a7 o8
  simp only [lexLed, List.mem_cons, List.not_mem_nil, or_false] at hp
  rcases hp with rfl | rfl | rfl | rfl | rfl | rfl | rfl | rfl | rfl
  · exact Nat.ne_of_gt a7
  · exact Nat.ne_of_gt a6
  · exact Nat.ne_of_gt a8
  · exact Nat.ne_of_gt a2
  · exact Nat.ne_of_gt a5
  · exact Nat.ne_of_gt a4
  · exact Nat.ne_of_gt a3
  · exact Nat.ne_of_gt h0
  · exact Nat.ne_of_gt a1
theorem LexOk.sub {q : Lex} {news news' : Led} (ok : LexOk q news) (h : ∀ p ∈ news', ∃ r ∈ news, r.1 = p.1) : LexOk q news' where
  c1 := ok.c1
  c2 := ok.c2
  c3 := ok.c3
  o1 := ok.o1
  o2 := ok.o2
  o3 := ok.o3
  o4 := ok.o4
  o5 := ok.o5
  o6 := ok.o6
  o7 := ok.o7
  o8 := ok.o8
  n1 := fun p hp => let ⟨r, hr, e⟩ := h p hp; e ▸ ok.n1 r hr
  n2 := fun p hp => let ⟨r, hr, e⟩ := h p hp; e ▸ ok.n2 r hr
  n3 := fun p hp => let ⟨r, hr, e⟩ := h p hp; e ▸ ok.n3 r hr
section
variable (w : World) (p : Program) (loose : List Str) (mean : ExcName → Option Value) (mg mb : Str → Option Value)
theorem seg4 {h₀ : Heap} {L fa : Addr} {cd : Value} {s : Shared} {Q : Flow → Shared → Prop} {E : Value → Shared → Prop} {u : Str → Option Value} {A₀ : Around} {base : Heap} {outer : List Env} {dp un : Nat} {gd : Option (List Code)} (B : Below A₀ base outer h₀) (hpre : CodeHd base 213 209) (hdp : dp + 30 < recursionLimit) (hun : un + 120 < cLine) (X : (K w.params).In h₀) (T : Top p loose mean mg mb h₀)
    {o3 o4 o5 : Obj} {Ml Nl : Addr} {ys zs : List Value} {x : List Nat} {ts tt : Tok} {sz : Nat} (hx : x.length ≤ 100) (d5 : o5.data = .cell none) (hTB : @LT.lt Nat _ 209 L)
    (hne : (@Ne Nat (L + 5) Ml) ∧ (@Ne Nat (L + 4) Ml) ∧ (@Ne Nat (L + 3) Ml) ∧ (@Ne Nat 209 Ml)) (hne2 : (@Ne Nat Ml Nl) ∧ (@Ne Nat (L + 5) Nl) ∧ (@Ne Nat (L + 4) Nl) ∧ (@Ne Nat (L + 3) Nl) ∧ (@Ne Nat 209 Nl))
    (F : Fr h₀ L s.heap (fm u [(Str.ofString "size", .int ((sz : Nat) : Int) ts), (Str.ofString "text", .str (mkS x) tt)])) (N : News h₀ L s.heap [(Nl, lst zs), (Ml, lst ys), (L + 5, o5), (L + 4, o4), (L + 3, o3), (209, tabObj #[])])
    (ret : ∀ h' tk' q tl pn ss sn tps o5', o5'.data = .cell (some (.ref q.X)) → StrsAre ss (chrs (x ++ [101, 110, 100])) → LexOk q [(209, tabObj tps), (Nl, lst zs), (Ml, lst ys), (L + 5, o5'), (L + 4, o4), (L + 3, o3)] →
      Fr h₀ L h' (fm u [(Str.ofString "size", .int ((sz : Nat) : Int) ts), (Str.ofString "text", .str (mkS x) tt)]) → News h₀ L h' (lexLed w q 1 tl [] pn ss sn ++ [(209, tabObj tps), (Nl, lst zs), (Ml, lst ys), (L + 5, o5'), (L + 4, o4), (L + 3, o3)]) → Q .next { s with heap := h', toks := tk' }) :
    wpAny (model Pm w) (lawA dp un gd outer L fa cd) (exec ls5 (lawEnv L fa cd)) Q E s := by
  revert X
  dsimp only [Pm]
  k_fill
  intro X
  unfold ls5
  dsimp only [lawEnv, lawA, lawCl]
  have e1 : Str.ofString "end" = mkS [101, 110, 100] := by rfl
  repeat' (first | (walk_at "P") | (walk_at "F"; walk_at "T"))
  have ex : mkS x ++ Str.ofString "end" = mkS (x ++ [101, 110, 100]) := by rw [e1]; unfold mkS; rw [app2]
  (try dsimp only)
  refine SB.add ?_ (by rw [mkS_len, sizeLine_eq]; show x.length + 3 ≤ _; (walk_at "O"))
  intro _ _
  rw [ex]
  repeat' (first | (walk_at "P") | (walk_at "F"; walk_at "T"))
  rename News _ _ _ _ => N9
  have N8 := News.sub (b := (209, tabObj #[]) :: [(Nl, lst zs), (Ml, lst ys), (L + 5, o5), (L + 4, o4), (L + 3, o3)]) N9 (by first | (intro _ h; first | exact h | exact .tail _ h | exact .tail _ (.tail _ h) | exact .tail _ (.tail _ (.tail _ h))) | ((with_reducible repeat (first | exact Uc.ledgR | refine Uc.ledgK ?_ | refine Uc.ledgD ?_)); done) | (intro _ h; simp only [List.mem_cons, List.mem_append, List.mem_singleton, List.not_mem_nil, or_false] at h ⊢; grind))
  clear N9
  have hq : ∀ q ∈ [(Nl, lst zs), (Ml, lst ys), (L + 5, o5), (L + 4, o4), (L + 3, o3)], q.1 ≠ 209 := fun q hq => by
    simp only [List.mem_cons, List.not_mem_nil, or_false] at hq
    have t5 : @LT.lt Nat _ 209 (L + 5) := by (walk_at "O")
    have t4 : @LT.lt Nat _ 209 (L + 4) := by (walk_at "O")
    have t3 : @LT.lt Nat _ 209 (L + 3) := by (walk_at "O")
    rcases hq with rfl | rfl | rfl | rfl | rfl
    · exact Ne.symm hne2.2.2.2.2
    · exact Ne.symm hne.2.2.2
    · exact Nat.ne_of_gt t5
    · exact Nat.ne_of_gt t4
    · exact Nat.ne_of_gt t3
  (refine lexer_make w p loose mean mg mb _ (mkS (x ++ [101, 110, 100])) _ (by rw [mkS_len, List.length_append]; show _ + 3 ≤ _; (walk_at "O")) hq _ _ _ _ _ _ _ _ _ _ _ _ _ _ _ _ _ (by assumption) (by assumption) (by assumption) (by assumption) (by assumption) (by first | assumption | rfl) ?pre (by first | assumption | exact Uc.room3 (by assumption) (by decide) | exact Uc.room2 (by assumption) (by decide) | ktr_room) (by first | assumption | exact Uc.room3 (by assumption) (by decide) | exact Uc.room2 (by assumption) (by decide) | ktr_units) ?_); (case pre => first | exact trivial | assumption)
  intro v news' h' tk' w18q F N; (refine Uc.ex6 w18q fun q tl pn ss sn tps => Uc.an5 fun e1q e2q hss ok lt => ?_; clear w18q; subst e1q; subst e2q)
  repeat' (first | (walk_at "P") | (walk_at "F"; walk_at "T"))
  have ne4 : @Ne Nat (L + 4) (L + 5) := by (walk_at "O")
  have ne3 : @Ne Nat (L + 3) (L + 5) := by (walk_at "O")
  have neT : @Ne Nat 209 (L + 5) := by (walk_at "O")
  have U : UpdF (L + 5) o5 [(209, tabObj tps), (Nl, lst zs), (Ml, lst ys), (L + 5, o5), (L + 4, o4), (L + 3, o3)] (fun o' => [(209, tabObj tps), (Nl, lst zs), (Ml, lst ys), (L + 5, o'), (L + 4, o4), (L + 3, o3)]) :=
    .tail neT (.tail (Ne.symm hne2.2.1) (.tail (Ne.symm hne.1) (.head fun p hp => by
      simp only [List.mem_cons, List.not_mem_nil, or_false] at hp
      rcases hp with rfl | rfl
      · exact ne4
      · exact ne3)))
  refine storeX_C F N (c := L + 5) rfl (updF_front U (lex_ne ok lt (.tail _ (.tail _ (.tail _ (.head _)))))) d5 (fun h' o' F N d' => ?_)
  refine ret _ _ q tl pn ss sn tps o' d' hss (ok.sub fun p hp => ?_) F N
  simp only [List.mem_cons, List.not_mem_nil, or_false] at hp
  rcases hp with rfl | rfl | rfl | rfl | rfl | rfl
  · exact ⟨_, .head _, rfl⟩
  · exact ⟨_, .tail _ (.head _), rfl⟩
  · exact ⟨_, .tail _ (.tail _ (.head _)), rfl⟩
  · exact ⟨_, .tail _ (.tail _ (.tail _ (.head _))), rfl⟩
  · exact ⟨_, .tail _ (.tail _ (.tail _ (.tail _ (.head _)))), rfl⟩
  · exact ⟨_, .tail _ (.tail _ (.tail _ (.tail _ (.tail _ (.head _))))), rfl⟩
end
end Uc
end
section
namespace Uc
noncomputable def isFI (c : Nat) : Bool := c == 102 || c == 105 || c == 70 || c == 73
noncomputable def typedTab : List (Nat × List Nat) := [(64259, [102, 102, 105]), (64256, [102, 102]), (64257, [102, 105]), (70, [70]), (73, [73])] ++ (bases.map fun b => (b + 102 - 97, [102])) ++ (bases.map fun b => (b + 105 - 97, [105]))
noncomputable def readOne (c : Nat) : Str := if c < 128 then chr1 c else mapB3 c
theorem typed_ok : typedTab.all (fun t => !isB1 (t.1 : Int) && decide (readOne t.1 = mkS t.2) && decide (t.1 < 1114112) && decide ((mapB3 t.1).length ≤ 100) && !isWs t.1 && t.1 != 34 && t.1 != 92) = true := by decide +kernel
theorem sign_ok : (List.range 27).all (fun n => isB1 (signOf n : Int) && decide (signOf n < 1114112) && decide ((mapB3 (signOf n)).length ≤ 100) && !isWs (signOf n) && signOf n != 34 && signOf n != 92) = true := by decide +kernel
structure Plainly (c : Nat) : Prop where
  lt : c < 1114112
  b3 : (mapB3 c).length ≤ 100
  ws : isWs c = false
  q : c ≠ 34
  e : c ≠ 92
theorem typed_get {t : Nat × List Nat} (h : t ∈ typedTab) : isB1 (t.1 : Int) = false ∧ readOne t.1 = mkS t.2 ∧ Plainly t.1 := by
  have := List.all_eq_true.mp typed_ok t h
  simp only [Bool.and_eq_true, Bool.not_eq_true', decide_eq_true_eq, bne_iff_ne, ne_eq] at this
  exact ⟨this.1.1.1.1.1.1, this.1.1.1.1.1.2, this.1.1.1.1.2, this.1.1.1.2, this.1.1.2, this.1.2, this.2⟩
theorem sign_mod (n : Nat) : signOf n = signOf (n % 27) := by
  unfold signOf
  rw [Nat.mod_mod]
theorem sign_get (n : Nat) : isB1 (signOf n : Int) = true ∧ Plainly (signOf n) := by
  rw [sign_mod]
  have := List.all_eq_true.mp sign_ok (n % 27) (List.mem_range.mpr (Nat.mod_lt _ (by decide)))
  simp only [Bool.and_eq_true, Bool.not_eq_true', decide_eq_true_eq, bne_iff_ne, ne_eq] at this
  exact ⟨this.1.1.1.1.1, this.1.1.1.1.2, this.1.1.1.2, this.1.1.2, this.1.2, this.2⟩
theorem fi_mem {c : Nat} (h : c = 102 ∨ c = 105 ∨ c = 70 ∨ c = 73) (r : Nat) : ((if c = 70 ∨ c = 73 then c else bases.getD (r / 3 % 10) 97 + c - 97), [c]) ∈ typedTab := by
  unfold typedTab
  have hb := base_in r
  rcases h with rfl | rfl | rfl | rfl
  · rw [if_neg (by decide)]
    exact List.mem_append_left _ (List.mem_append_right _ (List.mem_map_of_mem (f := fun b => (b + 102 - 97, [102])) hb))
  · rw [if_neg (by decide)]
    exact List.mem_append_right _ (List.mem_map_of_mem (f := fun b => (b + 105 - 97, [105])) hb)
  · rw [if_pos (by decide)]; exact List.mem_append_left _ (List.mem_append_left _ (.tail _ (.tail _ (.tail _ (.head _)))))
  · rw [if_pos (by decide)]; exact List.mem_append_left _ (List.mem_append_left _ (.tail _ (.tail _ (.tail _ (.tail _ (.head _))))))
theorem take_drop_eq {l P : List Nat} {k j : Nat} (h : l.take k = P) (hj : P.length = j) : l = P ++ l.drop j := by
  subst h
  rw [List.length_take] at hj
  by_cases hk : k ≤ l.length
  · rw [Nat.min_eq_left hk] at hj
    subst hj
    rw [List.take_append_drop]
  · rw [Nat.min_eq_right (by (walk_at "O"))] at hj
    subst hj
    rw [List.take_of_length_le (by (walk_at "O")), List.drop_of_length_le (Nat.le_refl _), List.append_nil]
theorem spell_typed : ∀ (k : Nat) (x : List Nat) (r : Nat), x.length ≤ k → (∀ c ∈ x, c = 102 ∨ c = 105 ∨ c = 70 ∨ c = 73) → ∃ ts : List (Nat × List Nat), spell k x r = ts.map (·.1) ∧ x = (ts.map (·.2)).flatten ∧ ∀ t ∈ ts, t ∈ typedTab
  | 0, [], _, _, _ => ⟨[], rfl, rfl, fun _ h => nomatch h⟩
  | 0, c :: t, _, h, _ => absurd h (by simp)
  | k + 1, [], _, _, _ => ⟨[], rfl, rfl, fun _ h => nomatch h⟩
  | k + 1, c :: t, r, h, hc => by
    have lig : ∀ (P : List Nat) (j z : Nat), (c :: t).take (3 - r % 3) = P → P.length = j → 1 ≤ j → (z, P) ∈ typedTab → ∃ ts : List (Nat × List Nat), z :: spell k ((c :: t).drop j) (r / 30) = ts.map (·.1) ∧ c :: t = (ts.map (·.2)).flatten ∧ ∀ t ∈ ts, t ∈ typedTab := fun P j z e hl hj hz => by
      have e2 := take_drop_eq e hl
      have hd : ((c :: t).drop j).length ≤ k := by rw [List.length_drop]; simp only [List.length_cons] at h ⊢; (walk_at "O")
      obtain ⟨ts, a, b, g⟩ := spell_typed k ((c :: t).drop j) (r / 30) hd fun d hd => hc d (List.mem_of_mem_drop hd)
      refine ⟨(z, P) :: ts, by rw [a]; rfl, ?_, fun q hq => ?_⟩
      · rw [List.map_cons, List.flatten_cons, ← b]; exact e2
      · rcases List.mem_cons.mp hq with rfl | hq
        · exact hz
        · exact g q hq
    rw [spell_eq]
    split
    · rename_i e; exact lig _ 3 _ e rfl (by decide) (by decide)
    split
    · rename_i e; exact lig _ 2 _ e rfl (by decide) (by decide)
    split
    · rename_i e; exact lig _ 2 _ e rfl (by decide) (by decide)
    · obtain ⟨ts, a, b, g⟩ := spell_typed k t (r / 30) (by simp only [List.length_cons] at h; (walk_at "O")) fun d hd => hc d (.tail _ hd)
      refine ⟨(_, [c]) :: ts, by rw [a]; rfl, by rw [List.map_cons, List.flatten_cons, ← b]; rfl, fun q hq => ?_⟩
      rcases List.mem_cons.mp hq with rfl | hq
      · exact fi_mem (hc c (.head _)) r
      · exact g q hq
theorem keptL_app (a b : List Nat) : keptL (a ++ b) = keptL a ++ keptL b := by unfold keptL; rw [List.filter_append, List.map_append]
theorem keptL_sign (n : Nat) (l : List Nat) : keptL (signOf n :: l) = keptL l := by
  unfold keptL
  rw [List.filter_cons, if_neg (by rw [(sign_get n).1]; decide)]
theorem keptL_typed : ∀ (ts : List (Nat × List Nat)), (∀ t ∈ ts, t ∈ typedTab) → keptL (ts.map (·.1)) = (ts.map (·.2)).map mkS
  | [], _ => rfl
  | t :: ts, h => by
    have ih := keptL_typed ts fun q hq => h q (.tail _ hq)
    obtain ⟨h1, h2, _⟩ := typed_get (h t (.head _))
    unfold keptL at ih ⊢
    unfold readOne at h2
    rw [List.map_cons, List.filter_cons, if_pos (by rw [h1]; rfl), List.map_cons, ih, List.map_cons, List.map_cons, h2]
theorem kept_raw (x : List Nat) (n : Nat) (hx : ∀ c ∈ x, c = 102 ∨ c = 105 ∨ c = 70 ∨ c = 73) : Txt.join (Str.ofString "") (keptL (rawOf x n)) = mkS x ∧ (∀ c ∈ rawOf x n, Plainly c) ∧ rawOf x n ≠ [] := by
  obtain ⟨ts, a, b, g⟩ := spell_typed x.length x n (Nat.le_refl _) hx
  have hp : ∀ c ∈ typedOf x n, Plainly c := fun c hc => by
    unfold typedOf at hc
    rw [a] at hc
    obtain ⟨t, ht, rfl⟩ := List.mem_map.mp hc
    exact (typed_get (g t ht)).2.2
  unfold rawOf
  refine ⟨?_, fun c hc => ?_, by simp⟩
  · (try dsimp only)
    rw [keptL_app, keptL_sign, ← keptL_app, List.take_append_drop]
    unfold typedOf
    rw [a, keptL_typed ts g, join_flat, ← b]
  · dsimp only at hc
    rcases List.mem_append.mp hc with hc | hc
    · exact hp c (List.mem_of_mem_take hc)
    rcases List.mem_cons.mp hc with rfl | hc
    · exact (sign_get n).2
    · exact hp c (List.mem_of_mem_drop hc)
theorem bGo_plain {r : List Nat} {z : Nat} (hz : isWs z = true) : ∀ (l acc : List Nat), (∀ c ∈ l, Plainly c) → bGo (l ++ z :: r) acc = (acc ++ l, r)
  | [], acc, _ => by rw [List.nil_append, b_w hz, List.append_nil]
  | c :: l, acc, h => by
    rw [List.cons_append, b_b (h c (.head _)).ws (h c (.head _)).e, bGo_plain hz l _ fun d hd => h d (.tail _ hd), List.append_assoc]; rfl
theorem bGo_esc {r : List Nat} {z : Nat} (hz : isWs z = true) : ∀ (l acc : List Nat), bGo ((l.map fun c => [92, c]).flatten ++ z :: r) acc = (acc ++ l, r)
  | [], acc => by rw [List.map_nil, List.flatten_nil, List.nil_append, b_w hz, List.append_nil]
  | c :: l, acc => by
    rw [List.map_cons, List.flatten_cons]
    show bGo (92 :: c :: ((l.map fun c => [92, c]).flatten ++ z :: r)) acc = _
    rw [b_e1, bGo_esc hz l, List.append_assoc]; rfl
theorem qGo_plain {r : List Nat} : ∀ (l acc : List Nat), (∀ c ∈ l, Plainly c) → qGo (l ++ 34 :: r) acc = (acc ++ l, r)
  | [], acc, _ => by rw [List.nil_append, q_q, List.append_nil]
  | c :: l, acc, h => by
    rw [List.cons_append, q_b (h c (.head _)).q (h c (.head _)).e, qGo_plain l _ fun d hd => h d (.tail _ hd), List.append_assoc]; rfl
theorem sep_ws (n : Nat) : isWs (wsS.getD (n / 21 % 4) 0) = true := by
  have hz : n / 21 % 4 < 4 := Nat.mod_lt _ (by decide)
  generalize n / 21 % 4 = z at hz
  match z, hz with
  | 0, _ | 1, _ | 2, _ | 3, _ => rfl
theorem tok_skip {r : List Nat} : ∀ (l : List Nat), (∀ c ∈ l, isWs c = true) → tokGo (l ++ r) = tokGo r
  | [], _ => rfl
  | c :: l, h => by rw [List.cons_append, tok_ws (h c (.head _)), tok_skip l fun d hd => h d (.tail _ hd)]
theorem read_next (x : List Nat) (n : Nat) (rest : List Nat) (hx : ∀ c ∈ x, c = 102 ∨ c = 105 ∨ c = 70 ∨ c = 73) (ws : List Nat) (hw : ∀ c ∈ ws, isWs c = true) : ∃ ws', (∀ c ∈ ws', isWs c = true) ∧ tokGo (ws ++ (spelled x n ++ rest)) = (rawOf x n, ws' ++ rest) := by
  obtain ⟨_, hp, hne⟩ := kept_raw x n hx
  rw [tok_skip ws hw]
  unfold spelled quoted
  rw [List.append_assoc]
  have hz := sep_ws n
  generalize wsS.getD (n / 21 % 4) 0 = z at hz
  obtain ⟨c, l, e⟩ : ∃ c l, rawOf x n = c :: l := by
    cases h : rawOf x n with
    | nil => exact absurd h hne
    | cons c l => exact ⟨c, l, rfl⟩
  rw [e] at hp ⊢
  have hl : ∀ d ∈ l, Plainly d := fun d hd => hp d (.tail _ hd)
  split
  · refine ⟨[z], fun d hd => by rw [List.mem_singleton.mp hd]; exact hz, ?_⟩
    show tokGo (34 :: 92 :: c :: (l ++ [34] ++ (z :: rest))) = _
    rw [tok_q, q_e1, List.append_assoc]
    show qGo (l ++ 34 :: (z :: rest)) [c] = _
    rw [qGo_plain l _ hl]; rfl
  split
  · refine ⟨[], fun d hd => (nomatch hd), ?_⟩
    show tokGo (92 :: c :: ((l.map fun c => [92, c]).flatten ++ z :: rest)) = _
    rw [tok_e1, bGo_esc hz l]; rfl
  · refine ⟨[], fun d hd => (nomatch hd), ?_⟩
    show tokGo (c :: (l ++ z :: rest)) = _
    rw [tok_b (hp c (.head _)).ws (hp c (.head _)).q (hp c (.head _)).e, bGo_plain hz l _ hl]; rfl
theorem read_end (ws : List Nat) (hw : ∀ c ∈ ws, isWs c = true) : tokGo (ws ++ [101, 110, 100]) = ([101, 110, 100], []) := by
  rw [tok_skip ws hw]; rfl
end Uc
end
section
namespace Uc
open PyProof.Rows.LCg
theorem LexOk.more {q : Lex} {news extra : Led} (ok : LexOk q news) (h : ∀ p ∈ extra, p.1 ≠ q.D ∧ p.1 ≠ q.PB ∧ p.1 ≠ q.SG) : LexOk q (extra ++ news) := { ok with
  n1 := fun p hp => (List.mem_append.mp hp).elim (fun a => (h p a).1) (ok.n1 p)
  n2 := fun p hp => (List.mem_append.mp hp).elim (fun a => (h p a).2.1) (ok.n2 p)
  n3 := fun p hp => (List.mem_append.mp hp).elim (fun a => (h p a).2.2) (ok.n3 p) }
noncomputable def Ahead (nums : List Nat) (cs : List Nat) : Prop := ∃ ws, (∀ c ∈ ws, isWs c = true) ∧ cs = ws ++ ((spells nums).flatten ++ [101, 110, 100])
theorem ahead_next {n : Nat} {nums cs : List Nat} (h : Ahead (n :: nums) cs) : ∃ cs', Ahead nums cs' ∧ tokGo cs = (rawOf (nameOf n) (n / 192), cs') := by
  obtain ⟨ws, hw, rfl⟩ := h
  obtain ⟨ws', hw', e⟩ := read_next (nameOf n) (n / 192) ((spells nums).flatten ++ [101, 110, 100]) (fun c hc => name_chr hc) ws hw
  refine ⟨ws' ++ ((spells nums).flatten ++ [101, 110, 100]), ⟨ws', hw', rfl⟩, ?_⟩
  rw [← e]
  show tokGo (ws ++ ((spelled (nameOf n) (n / 192) ++ (spells nums).flatten) ++ [101, 110, 100])) = _
  rw [List.append_assoc]
theorem tok_small : ∀ (cs : List Nat), (tokGo cs).2.length ≤ cs.length ∧ (tokGo cs).2.count 10 ≤ cs.count 10 := by
  have hq : ∀ (k : Nat) (cs acc : List Nat), cs.length ≤ k → (qGo cs acc).2.length ≤ cs.length ∧ (qGo cs acc).2.count 10 ≤ cs.count 10 := fun k => by
    induction k with
    | zero => intro cs acc h; rw [List.length_eq_zero_iff.mp (Nat.le_zero.mp h)]; exact ⟨Nat.le_refl _, Nat.le_refl _⟩
    | succ k ih =>
      intro cs acc h
      match cs, h with
      | [], _ => exact ⟨Nat.le_refl _, Nat.le_refl _⟩
      | c :: r, h =>
        have hr : r.length ≤ k := by simp only [List.length_cons] at h; (walk_at "O")
        have cc : r.count 10 ≤ (c :: r).count 10 := by rw [List.count_cons]; (walk_at "O")
        rw [q_eq]
        split
        · exact ⟨by simp, cc⟩
        split
        · match r, hr, cc with
          | [], _, _ => exact ⟨Nat.zero_le _, Nat.zero_le _⟩
          | d :: r', hr, cc =>
            have a := ih r' (acc ++ [d]) (by simp only [List.length_cons] at hr; (walk_at "O"))
            have cc' : r'.count 10 ≤ (d :: r').count 10 := by rw [List.count_cons]; (walk_at "O")
            simp only [List.length_cons]
            exact ⟨by (walk_at "O"), by (walk_at "O")⟩
        · have a := ih r (acc ++ [c]) hr
          simp only [List.length_cons]
          exact ⟨by (walk_at "O"), by (walk_at "O")⟩
  have hb : ∀ (k : Nat) (cs acc : List Nat), cs.length ≤ k → (bGo cs acc).2.length ≤ cs.length ∧ (bGo cs acc).2.count 10 ≤ cs.count 10 := fun k => by
    induction k with
    | zero => intro cs acc h; rw [List.length_eq_zero_iff.mp (Nat.le_zero.mp h)]; exact ⟨Nat.le_refl _, Nat.le_refl _⟩
    | succ k ih =>
      intro cs acc h
      match cs, h with
      | [], _ => exact ⟨Nat.le_refl _, Nat.le_refl _⟩
      | c :: r, h =>
        have hr : r.length ≤ k := by simp only [List.length_cons] at h; (walk_at "O")
        have cc : r.count 10 ≤ (c :: r).count 10 := by rw [List.count_cons]; (walk_at "O")
        rw [b_eq]
        split
        · exact ⟨by simp, cc⟩
        split
        · match r, hr, cc with
          | [], _, _ => exact ⟨Nat.zero_le _, Nat.zero_le _⟩
          | d :: r', hr, cc =>
            have a := ih r' (acc ++ [d]) (by simp only [List.length_cons] at hr; (walk_at "O"))
            have cc' : r'.count 10 ≤ (d :: r').count 10 := by rw [List.count_cons]; (walk_at "O")
            simp only [List.length_cons]
            exact ⟨by (walk_at "O"), by (walk_at "O")⟩
        · have a := ih r (acc ++ [c]) hr
          simp only [List.length_cons]
          exact ⟨by (walk_at "O"), by (walk_at "O")⟩
  intro cs
  induction cs with
  | nil => exact ⟨Nat.le_refl _, Nat.le_refl _⟩
  | cons c r ih =>
    have cc : r.count 10 ≤ (c :: r).count 10 := by rw [List.count_cons]; (walk_at "O")
    rw [tok_eq]
    split
    · simp only [List.length_cons]; exact ⟨by (walk_at "O"), by (walk_at "O")⟩
    split
    · have a := hq r.length r [] (Nat.le_refl _)
      simp only [List.length_cons]; exact ⟨by (walk_at "O"), by (walk_at "O")⟩
    split
    · match r, cc with
      | [], _ => exact ⟨Nat.zero_le _, Nat.zero_le _⟩
      | d :: r', cc =>
        have a := hb r'.length r' [d] (Nat.le_refl _)
        have cc' : r'.count 10 ≤ (d :: r').count 10 := by rw [List.count_cons]; (walk_at "O")
        simp only [List.length_cons]
        exact ⟨by (walk_at "O"), by (walk_at "O")⟩
    · have a := hb r.length r [c] (Nat.le_refl _)
      simp only [List.length_cons]; exact ⟨by (walk_at "O"), by (walk_at "O")⟩
theorem raw_pre (n : Nat) : (rawOf (nameOf n) (n / 192)).length ≤ 100 ∧ ∀ c ∈ rawOf (nameOf n) (n / 192), c < 1114112 ∧ (mapB3 c).length ≤ 100 := by
  have a := raw_le (nameOf n) (n / 192)
  have b := name_len3 n
  exact ⟨by (walk_at "O"), fun c hc => ⟨((kept_raw (nameOf n) (n / 192) fun c hc => name_chr hc).2.1 c hc).lt, ((kept_raw (nameOf n) (n / 192) fun c hc => name_chr hc).2.1 c hc).b3⟩⟩
theorem lex_new {w : World} {q : Lex} {ln : Int} {tl : Tok} {ps ss : List Value} {pn sn : Nat} {R : Led} {a : Addr} (h : ∀ p ∈ lexLed w q ln tl ps pn ss sn ++ R, @LT.lt Nat _ p.1 a) : (a ≠ q.D ∧ a ≠ q.PB ∧ a ≠ q.SG) ∧ ∀ r ∈ R, @LT.lt Nat _ r.1 a :=
  ⟨⟨Nat.ne_of_gt (h (q.D, _) (List.mem_append_left _ (.tail _ (.head _)))), Nat.ne_of_gt (h (q.PB, _) (List.mem_append_left _ (.tail _ (.tail _ (.head _))))),
    Nat.ne_of_gt (h (q.SG, _) (List.mem_append_left _ (.tail _ (.tail _ (.tail _ (.tail _ (.tail _ (.tail _ (.tail _ (.tail _ (.head _)))))))))))⟩, fun r hr => h r (List.mem_append_right _ hr)⟩
section
variable (w : World) (p : Program) (loose : List Str) (mean : ExcName → Option Value) (mg mb : Str → Option Value)
theorem seg5 {h₀ : Heap} {L fa : Addr} {cd : Value} {s : Shared} {Q : Flow → Shared → Prop} {E : Value → Shared → Prop} {u : Str → Option Value} {A₀ : Around} {base : Heap} {outer : List Env} {dp un : Nat} {gd : Option (List Code)} (B : Below A₀ base outer h₀) (hpre : CodeHd base 213 209) (hdp : dp + 30 < recursionLimit) (hun : un + 120 < cLine) (X : (K w.params).In h₀) (T : Top p loose mean mg mb h₀)
    {o3 o4 o5 : Obj} {Ml Nl : Addr} {ys zs : List Value} {ts tt : Tok} {sz : Nat} {tps : Array Value} {q : Lex} {tl : Tok} {pn sn : Nat} {ss : List Value} {cs : List Nat} {txt : Str} {LN : Int} {n : Nat} {nums : List Nat} (d5 : o5.data = .cell (some (.ref q.X)))
    (hss : StrsAre ss (chrs cs)) (hA : Ahead (n :: nums) cs) (hlen : cs.length ≤ 1000) (hLN : (cs.count 10 : Int) ≤ LN ∧ LN ≤ 100000)
    (ok : LexOk q [(209, tabObj tps), (Nl, lst zs), (Ml, lst ys), (L + 5, o5), (L + 4, o4), (L + 3, o3)])
    (F : Fr h₀ L s.heap (fm u [(Str.ofString "size", .int ((sz : Nat) : Int) ts), (Str.ofString "text", .str txt tt)])) (N : News h₀ L s.heap (lexLed w q (LN - cs.count 10) tl [] pn ss sn ++ [(209, tabObj tps), (Nl, lst zs), (Ml, lst ys), (L + 5, o5), (L + 4, o4), (L + 3, o3)]))
    (ret : ∀ h' tk' tl pn ss sn cs' tw Ol Cl m', StrsAre ss (chrs cs') → Ahead nums cs' → cs'.length ≤ 1000 → (cs'.count 10 : Int) ≤ LN → LexOk q [(Ol, listOf #[.str (mkS (nameOf n)) tw] 0), (Cl, listOf #[] 0), (209, tabObj tps), (Nl, lst zs), (Ml, lst ys), (L + 5, o5), (L + 4, o4), (L + 3, o3)] →
      Has m' [(Str.ofString "columns", .ref Cl), (Str.ofString "order", .ref Ol), (Str.ofString "latest", .str (mkS (nameOf n)) tw), (Str.ofString "size", .int ((sz : Nat) : Int) ts), (Str.ofString "text", .str txt tt)] → (@Ne Nat Ol Cl) → (∀ r ∈ [(209, tabObj tps), (Nl, lst zs), (Ml, lst ys), (L + 5, o5), (L + 4, o4), (L + 3, o3)], @LT.lt Nat _ r.1 Ol ∧ @LT.lt Nat _ r.1 Cl) →
      Fr h₀ L h' m' → News h₀ L h' (lexLed w q (LN - cs'.count 10) tl [] pn ss sn ++ [(Ol, listOf #[.str (mkS (nameOf n)) tw] 0), (Cl, listOf #[] 0), (209, tabObj tps), (Nl, lst zs), (Ml, lst ys), (L + 5, o5), (L + 4, o4), (L + 3, o3)]) → Q .next { s with heap := h', toks := tk' }) :
    wpAny (model Pm w) (lawA dp un gd outer L fa cd) (execs [ls6, ls7] (lawEnv L fa cd)) Q E s := by
  revert X
  dsimp only [Pm]
  k_fill
  intro X
  unfold ls6 ls7
  dsimp only [lawEnv, lawA, lawCl]
  repeat' (first | (walk_at "P") | (walk_at "F"; walk_at "T"))
  obtain ⟨cs', hA', e⟩ := ahead_next hA
  have hsm := tok_small cs
  rw [e] at hsm
  (try dsimp only [List.append_nil, List.nil_append, List.cons_append])
  (refine get_new w p loose mean mg mb [(209, tabObj tps), (Nl, lst zs), (Ml, lst ys), (L + 5, o5), (L + 4, o4), (L + 3, o3)] q LN tl pn ss sn cs hss (by (walk_at "O")) hLN ok _ _ _ _ _ _ _ _ _ _ _ _ _ _ _ _ _ (by assumption) (by assumption) (by assumption) (by assumption) (by assumption) (by first | assumption | rfl) ?pre (by first | assumption | exact Uc.room3 (by assumption) (by decide) | exact Uc.room2 (by assumption) (by decide) | ktr_room) (by first | assumption | exact Uc.room3 (by assumption) (by decide) | exact Uc.room2 (by assumption) (by decide) | ktr_units) ?_); (case pre => first | exact trivial | assumption)
  first | refine kE5npv ?_ | refine kE5vpn ?_
  intro tl' pn' ss' sn' t' h' tk' hss' F N
  rw [e] at hss' N ⊢
  dsimp only at hss' N hsm
  repeat' (first | (walk_at "P") | (walk_at "F"; walk_at "T"))
  (refine kept_c w p loose mean mg mb _ (rawOf (nameOf n) (n / 192)) _ (raw_pre n).1 (raw_pre n).2 _ _ _ _ _ _ _ _ _ _ _ _ _ _ _ _ _ (by assumption) (by assumption) (by assumption) (by assumption) (by assumption) (by first | assumption | rfl) ?pre (by first | assumption | exact Uc.room3 (by assumption) (by decide) | exact Uc.room2 (by assumption) (by decide) | ktr_room) (by first | assumption | exact Uc.room3 (by assumption) (by decide) | exact Uc.room2 (by assumption) (by decide) | ktr_units) ?_); (case pre => first | exact trivial | assumption)
  refine kEn1v ?_
  intro t2 h' tk' F N
  rw [(kept_raw (nameOf n) (n / 192) fun c hc => name_chr hc).1]
  repeat' (first | (walk_at "P") | (walk_at "F"; walk_at "T"))
  rename (∀ p ∈ lexLed _ _ _ _ _ _ _ _ ++ _, _) => hOl
  rename (_ < _ ∧ AllLt _ (lexLed _ _ _ _ _ _ _ _ ++ _)) => hCl
  rename News _ _ _ _ => N9
  rename Fr _ _ _ _ => F9
  obtain ⟨a1, a2⟩ := lex_new hOl
  obtain ⟨b1, b2⟩ := lex_new (allLt_all hCl.2)
  exact ret _ _ tl' pn' ss' sn' cs' _ _ _ _ hss' hA' (by (walk_at "O")) (by (walk_at "O")) (LexOk.more (extra := [_, _]) ok (fun p hp => by
    rcases List.mem_cons.mp hp with rfl | hp
    · exact a1
    · rw [List.mem_singleton.mp hp]; exact b1)) ⟨rfl, rfl, rfl, rfl, rfl, trivial⟩ (Nat.ne_of_lt hCl.1) (fun r hr => ⟨a2 r hr, b2 r hr⟩) F9 (News.sub N9 fun p hp => by
      rcases List.mem_append.mp hp with hp | hp
      · exact .tail _ (.tail _ (.tail _ (List.mem_append_left _ hp)))
      rcases List.mem_cons.mp hp with rfl | hp
      · exact .tail _ (.tail _ (.head _))
      rcases List.mem_cons.mp hp with rfl | hp
      · exact .tail _ (.head _)
      · exact .tail _ (.tail _ (.tail _ (List.mem_append_right _ hp))))
end
end Uc
end
section
namespace Uc
open PyProof.Rows.LCg
theorem LexOk.moreR {q : Lex} {news extra : Led} (ok : LexOk q news) (h : ∀ p ∈ extra, p.1 ≠ q.D ∧ p.1 ≠ q.PB ∧ p.1 ≠ q.SG) : LexOk q (news ++ extra) := { ok with
  n1 := fun p hp => (List.mem_append.mp hp).elim (ok.n1 p) (fun a => (h p a).1)
  n2 := fun p hp => (List.mem_append.mp hp).elim (ok.n2 p) (fun a => (h p a).2.1)
  n3 := fun p hp => (List.mem_append.mp hp).elim (ok.n3 p) (fun a => (h p a).2.2) }
theorem off1_all {D : Addr} : ∀ {l : List (Addr × Obj)}, Off1 D l → ∀ p ∈ l, p.1 ≠ D
  | [], _, p, h => nomatch h
  | q :: l, h, p, hp => by
    rcases List.mem_cons.mp hp with rfl | hp
    · exact fun e => h.1 e
    · exact off1_all h.2 p hp
theorem drop_get {α : Type} {l : List α} {j : Nat} {a : α} (h : l[j]? = some a) : l.drop j = a :: l.drop (j + 1) := by
  obtain ⟨hj, e⟩ := List.getElem?_eq_some_iff.mp h
  rw [List.drop_eq_getElem_cons hj, e]
theorem perm3 {α : Type} {a b c : α} {l r : List α} : ∀ p ∈ l ++ (a :: b :: c :: r), p ∈ a :: b :: c :: (l ++ r) := fun p hp => by
  simp only [List.mem_cons, List.mem_append] at hp ⊢
  rcases hp with h | h | h | h | h <;> simp [h]
theorem perm3' {α : Type} {a b c : α} {l r : List α} : ∀ p ∈ a :: b :: c :: (l ++ r), p ∈ l ++ (a :: b :: c :: r) := fun p hp => by
  simp only [List.mem_cons, List.mem_append] at hp ⊢
  rcases hp with h | h | h | h | h <;> simp [h]
theorem perm4 {α : Type} {a : α} {l r : List α} : ∀ p ∈ l ++ (a :: r), p ∈ a :: (l ++ r) := fun p hp => by
  simp only [List.mem_cons, List.mem_append] at hp ⊢
  rcases hp with h | h | h <;> simp [h]
theorem lex_off3 {w : World} {q : Lex} {ln : Int} {tl : Tok} {ps ss : List Value} {pn sn : Nat} {R : Led} {I C D : Addr} {oI oC oD : Obj} (h : ∀ p ∈ lexLed w q ln tl ps pn ss sn ++ R, p.1 ≠ I ∧ p.1 ≠ C ∧ p.1 ≠ D) : ∀ p ∈ [(I, oI), (C, oC), (D, oD)], p.1 ≠ q.D ∧ p.1 ≠ q.PB ∧ p.1 ≠ q.SG := fun p hp => by
  have a := h (q.D, _) (List.mem_append_left _ (.tail _ (.head _)))
  have b := h (q.PB, _) (List.mem_append_left _ (.tail _ (.tail _ (.head _))))
  have c := h (q.SG, _) (List.mem_append_left _ (.tail _ (.tail _ (.tail _ (.tail _ (.tail _ (.tail _ (.tail _ (.tail _ (.head _))))))))))
  simp only [List.mem_cons, List.not_mem_nil, or_false] at hp
  rcases hp with rfl | rfl | rfl
  · exact ⟨Ne.symm a.1, Ne.symm b.1, Ne.symm c.1⟩
  · exact ⟨Ne.symm a.2.1, Ne.symm b.2.1, Ne.symm c.2.1⟩
  · exact ⟨Ne.symm a.2.2, Ne.symm b.2.2, Ne.symm c.2.2⟩
theorem lex_off1 {w : World} {q : Lex} {ln : Int} {tl : Tok} {ps ss : List Value} {pn sn : Nat} {R : Led} {D : Addr} {oD : Obj} (h : ∀ p ∈ lexLed w q ln tl ps pn ss sn ++ R, p.1 ≠ D) : ∀ p ∈ [(D, oD)], p.1 ≠ q.D ∧ p.1 ≠ q.PB ∧ p.1 ≠ q.SG := fun p hp => by
  rw [List.mem_singleton.mp hp]
  exact ⟨Ne.symm (h (q.D, _) (List.mem_append_left _ (.tail _ (.head _)))), Ne.symm (h (q.PB, _) (List.mem_append_left _ (.tail _ (.tail _ (.head _))))), Ne.symm (h (q.SG, _) (List.mem_append_left _ (.tail _ (.tail _ (.tail _ (.tail _ (.tail _ (.tail _ (.tail _ (.tail _ (.head _)))))))))))⟩
theorem lex_off_all {w : World} {q : Lex} {ln ln' : Int} {tl tl' : Tok} {ps ss ps' ss' : List Value} {pn sn pn' sn' : Nat} {R : Led} {P : Addr → Prop} (h : ∀ p ∈ lexLed w q ln tl ps pn ss sn ++ R, P p.1) : ∀ p ∈ lexLed w q ln' tl' ps' pn' ss' sn' ++ R, P p.1 := fun p hp => by
  rcases List.mem_append.mp hp with hp | hp
  · simp only [lexLed, List.mem_cons, List.not_mem_nil, or_false] at hp
    rcases hp with rfl | rfl | rfl | rfl | rfl | rfl | rfl | rfl | rfl
    · have z := h (q.X, _) (List.mem_append_left _ (.head _)); exact z
    · have z := h (q.D, _) (List.mem_append_left _ (.tail _ (.head _))); exact z
    · have z := h (q.PB, _) (List.mem_append_left _ (.tail _ (.tail _ (.head _)))); exact z
    · have z := h (q.SF, _) (List.mem_append_left _ (.tail _ (.tail _ (.tail _ (.head _))))); exact z
    · have z := h (q.SD, _) (List.mem_append_left _ (.tail _ (.tail _ (.tail _ (.tail _ (.head _)))))); exact z
    · have z := h (q.RF, _) (List.mem_append_left _ (.tail _ (.tail _ (.tail _ (.tail _ (.tail _ (.head _))))))); exact z
    · have z := h (q.RC, _) (List.mem_append_left _ (.tail _ (.tail _ (.tail _ (.tail _ (.tail _ (.tail _ (.head _)))))))); exact z
    · have z := h (q.CC, _) (List.mem_append_left _ (.tail _ (.tail _ (.tail _ (.tail _ (.tail _ (.tail _ (.tail _ (.head _))))))))); exact z
    · have z := h (q.SG, _) (List.mem_append_left _ (.tail _ (.tail _ (.tail _ (.tail _ (.tail _ (.tail _ (.tail _ (.tail _ (.head _)))))))))); exact z
  · exact h p (List.mem_append_right _ hp)
section
variable (w : World) (p : Program) (loose : List Str) (mean : ExcName → Option Value) (mg mb : Str → Option Value)
theorem seg6 {h₀ : Heap} {L fa : Addr} {cd : Value} {s : Shared} {Q : Flow → Shared → Prop} {E : Value → Shared → Prop} {u : Str → Option Value} {A₀ : Around} {base : Heap} {outer : List Env} {dp un : Nat} {gd : Option (List Code)} (B : Below A₀ base outer h₀) (hpre : CodeHd base 213 209) (hdp : dp + 30 < recursionLimit) (hun : un + 120 < cLine) (hE : PassesOwn (model Pm w) (lawA dp un gd outer L fa cd) (lawEnv L fa cd) E) (X : (K w.params).In h₀) (T : Top p loose mean mg mb h₀)
    {o3 o4 o5 oO oC : Obj} {Ol Cl Ml Nl : Addr} {ys zs : List Value} {ts tt tw : Tok} {sz : Nat} {tps : Array Value} {q : Lex} {tl : Tok} {pn sn : Nat} {ss : List Value} {cs : List Nat} {txt la : Str} {LN : Int} {nums : List Nat} (d5 : o5.data = .cell (some (.ref q.X)))
    (hn : nums.length = 4) (hss : StrsAre ss (chrs cs)) (hA : Ahead nums cs) (hlen : cs.length ≤ 1000) (hLN : (cs.count 10 : Int) ≤ LN ∧ LN ≤ 100000)
    (ok : LexOk q [(Ol, oO), (Cl, oC), (209, tabObj tps), (Nl, lst zs), (Ml, lst ys), (L + 5, o5), (L + 4, o4), (L + 3, o3)])
    (F : Fr h₀ L s.heap (fm u [(Str.ofString "columns", .ref Cl), (Str.ofString "order", .ref Ol), (Str.ofString "latest", .str la tw), (Str.ofString "size", .int ((sz : Nat) : Int) ts), (Str.ofString "text", .str txt tt)])) (N : News h₀ L s.heap (lexLed w q (LN - cs.count 10) tl [] pn ss sn ++ [(Ol, oO), (Cl, oC), (209, tabObj tps), (Nl, lst zs), (Ml, lst ys), (L + 5, o5), (L + 4, o4), (L + 3, o3)]))
    (ret : ∀ h' tk' tl pn ss sn cs' m' vs, StrsAre ss (chrs cs') → Ahead [] cs' → cs'.length ≤ 1000 → (cs'.count 10 : Int) ≤ LN → StrsAre vs (nums.map fun n => mkS (nameOf n)) →
      Has m' [(Str.ofString "columns", .ref Cl), (Str.ofString "order", .ref Ol), (Str.ofString "latest", .str la tw), (Str.ofString "size", .int ((sz : Nat) : Int) ts), (Str.ofString "text", .str txt tt)] →
      Fr h₀ L h' m' → News h₀ L h' (lexLed w q (LN - cs'.count 10) tl vs pn ss sn ++ [(Ol, oO), (Cl, oC), (209, tabObj tps), (Nl, lst zs), (Ml, lst ys), (L + 5, o5), (L + 4, o4), (L + 3, o3)]) → Q .next { s with heap := h', toks := tk' }) :
    wpAny (model Pm w) (lawA dp un gd outer L fa cd) (exec ls8 (lawEnv L fa cd)) Q E s := by
  revert X
  dsimp only [Pm]
  k_fill
  intro X
  unfold ls8
  dsimp only [lawEnv, lawA, lawCl]
  walk_at "H"
  refine For_invV (hE := hE) h₀ (by rfl) (by rfl) ?_
  repeat' (first | (walk_at "P") | (walk_at "F"; first | ((with_reducible show wpAny _ _ (eval (PySem.Expr.ListComp _ _ _ _) _) _ _ _); (k_dflt (refine Uc.comp_range (by rfl) (by decide) (by rfl) (by decide) (by rfl) ?_))) | (walk_at "T")))
  rename Fr _ _ _ _ => F9
  rename News _ _ _ _ => N9
  refine Uc.ei11 _ _ _ _ _ _ _ _ 4 _ (fun j zs2 nw => ∃ tl pn ss sn cs, nw = lexLed w q (LN - cs.count 10) tl [] pn ss sn ++ [(Ol, oO), (Cl, oC), (209, tabObj tps), (Nl, lst zs), (Ml, lst ys), (L + 5, o5), (L + 4, o4), (L + 3, o3)] ∧ StrsAre ss (chrs cs) ∧ Ahead (nums.drop j) cs ∧ cs.length ≤ 1000 ∧ (cs.count 10 : Int) ≤ LN ∧ StrsAre zs2 ((nums.take j).map fun n => mkS (nameOf n))) ⟨rfl, rfl, F9, N9, by assumption, rfl, by decide, ⟨tl, pn, ss, sn, cs, rfl, hss, hA, hlen, hLN.1, .nil⟩, ?T, ?fin⟩
  case T =>
    clear F9 N9
    intro g2 j vj zs2 nw I2 oI2 C2 oC2 D2 m3 h2 tk2 E2 hj w3q w4q _ hoC2 hmj F N off2 w5q; obtain ⟨tj, rfl⟩ := w3q; (refine Uc.ex5 w4q fun tl pn ss sn cs => Uc.an6 fun e1q hss hA hlen hL9 hS2 => ?_; clear w4q; subst e1q); (refine Uc.ah3 w5q fun d1' d2' d3' => ?_; clear w5q)
    refine wpAny_tests_nil ?_
    simp only [if_true]
    repeat' (first | (walk_at "P") | (walk_at "F"; walk_at "T"))
    obtain ⟨n, hnj⟩ : ∃ n, nums[j]? = some n := ⟨_, List.getElem?_eq_getElem (by (walk_at "O"))⟩
    have hdr : nums.drop j = n :: nums.drop (j + 1) := drop_get hnj
    rw [hdr] at hA
    obtain ⟨cs', hA', e⟩ := ahead_next hA
    have hsm := tok_small cs
    rw [e] at hsm
    have offm := off2.mem
    have N2 := News.sub (b := lexLed w q (LN - cs.count 10) tl [] pn ss sn ++ ((I2, oI2) :: (C2, oC2) :: (D2, lst zs2) :: [(Ol, oO), (Cl, oC), (209, tabObj tps), (Nl, lst zs), (Ml, lst ys), (L + 5, o5), (L + 4, o4), (L + 3, o3)])) N perm3
    have ok2 := LexOk.more (extra := [(I2, oI2), (C2, oC2), (D2, lst zs2)]) ok (lex_off3 offm)
    (try dsimp only [List.append_nil, List.nil_append, List.cons_append])
    (refine get_new w p loose mean mg mb ((I2, oI2) :: (C2, oC2) :: (D2, lst zs2) :: [(Ol, oO), (Cl, oC), (209, tabObj tps), (Nl, lst zs), (Ml, lst ys), (L + 5, o5), (L + 4, o4), (L + 3, o3)]) q LN tl pn ss sn cs hss (by (walk_at "O")) ⟨hL9, hLN.2⟩ ok2 _ _ _ _ _ _ _ _ _ _ _ _ _ _ _ _ _ (by assumption) (by assumption) (by assumption) (by assumption) (by assumption) (by first | assumption | rfl) ?pre (by first | assumption | exact Uc.room3 (by assumption) (by decide) | exact Uc.room2 (by assumption) (by decide) | ktr_room) (by first | assumption | exact Uc.room3 (by assumption) (by decide) | exact Uc.room2 (by assumption) (by decide) | ktr_units) ?_); (case pre => first | exact trivial | assumption)
    first | refine kE5npv ?_ | refine kE5vpn ?_
    intro tl' pn' ss' sn' t' h' tk' hss' F N
    rw [e] at hss' N ⊢
    dsimp only at hss' N hsm
    clear N2
    repeat' (first | (walk_at "P") | (walk_at "F"; walk_at "T"))
    (refine kept_c w p loose mean mg mb _ (rawOf (nameOf n) (n / 192)) _ (raw_pre n).1 (raw_pre n).2 _ _ _ _ _ _ _ _ _ _ _ _ _ _ _ _ _ (by assumption) (by assumption) (by assumption) (by assumption) (by assumption) (by first | assumption | rfl) ?pre (by first | assumption | exact Uc.room3 (by assumption) (by decide) | exact Uc.room2 (by assumption) (by decide) | ktr_room) (by first | assumption | exact Uc.room3 (by assumption) (by decide) | exact Uc.room2 (by assumption) (by decide) | ktr_units) ?_); (case pre => first | exact trivial | assumption)
    refine kEn1v ?_
    intro t2 h' tk' F N
    rw [(kept_raw (nameOf n) (n / 192) fun c hc => name_chr hc).1]
    repeat' (first | (walk_at "P") | (walk_at "F"; walk_at "T"))
    exact TurnC.mk _ (by assumption) (by assumption) perm3' (Off3.of (lex_off_all (P := fun a => a ≠ I2 ∧ a ≠ C2 ∧ a ≠ D2) offm)) ⟨trivial, tl', pn', ss', sn', cs', rfl, hss', hA', by (walk_at "O"), by (walk_at "O"), by
      rw [List.take_add_one, hnj]
      show StrsAre _ (List.map _ (_ ++ [n]))
      rw [List.map_append]
      exact StrsAre.append' hS2 (.cons _ _ .nil)⟩
  case fin =>
    clear F9 N9
    intro D2 h2 tk2 zs2 nw w6q F N o2; (refine Uc.ex5 w6q fun tl pn ss sn cs => Uc.an6 fun e1q hss hA hlen hL9 hS2 => ?_; clear w6q; subst e1q)
    rw [List.drop_of_length_le (by (walk_at "O"))] at hA
    rw [List.take_of_length_le (by (walk_at "O"))] at hS2
    have hz2 : zs2.length = 4 := by rw [StrsAre.length hS2, List.length_map, hn]
    repeat' (first | (walk_at "P") | (walk_at "F"; walk_at "T"))
    rename Fr _ _ _ _ => F9
    have ok2 := LexOk.more (extra := [(D2, lst zs2)]) ok (lex_off1 (off1_all o2))
    have N2 := News.sub (b := lexLed w q (LN - cs.count 10) tl [] pn ss sn ++ ((D2, lst zs2) :: [(Ol, oO), (Cl, oC), (209, tabObj tps), (Nl, lst zs), (Ml, lst ys), (L + 5, o5), (L + 4, o4), (L + 3, o3)])) N perm4
    refine iter_listL (σ := List Value × Nat) (l := D2) (vs := zs2) (nn := zs2.length) (fun c => lexLed w q (LN - cs.count 10) tl c.1 c.2 ss sn ++ ((D2, lst zs2) :: [(Ol, oO), (Cl, oC), (209, tabObj tps), (Nl, lst zs), (Ml, lst ys), (L + 5, o5), (L + 4, o4), (L + 3, o3)])) (fun c => [(Str.ofString "columns", .ref Cl), (Str.ofString "order", .ref Ol), (Str.ofString "latest", .str la tw), (Str.ofString "size", .int ((sz : Nat) : Int) ts), (Str.ofString "text", .str txt tt)])
      (fun i c => c.1 = zs2.take i) ([], pn) rfl (fun c => List.mem_append_right _ (.head _)) F9 N2 ⟨rfl, rfl, rfl, rfl, rfl, trivial⟩ rfl ?turn ?done
    case turn =>
      clear F9 N2
      intro i v
      refine fpLooR fun vs c => ?_
      intro u h tk I o hv hE41z hne hit F N
      obtain rfl := hE41z
      dsimp only at hne F N ⊢
      have hv4 : i < 4 := by have := (List.getElem?_eq_some_iff.mp hv).1; (walk_at "O")
      have ok3 := LexOk.moreR (extra := [(I, o)]) ok2 (lex_off1 hne)
      rw [List.append_assoc] at N
      repeat' (first | (walk_at "P") | (walk_at "F"; walk_at "T"))
      (refine push_c w p loose mean mg mb (((D2, lst zs2) :: [(Ol, oO), (Cl, oC), (209, tabObj tps), (Nl, lst zs), (Ml, lst ys), (L + 5, o5), (L + 4, o4), (L + 3, o3)]) ++ [(I, o)]) q (LN - cs.count 10) tl (zs2.take i) c ss sn v (by rw [List.length_take]; (walk_at "O")) ok3 _ _ _ _ _ _ _ _ _ _ _ _ _ _ _ _ _ (by assumption) (by assumption) (by assumption) (by assumption) (by assumption) (by first | assumption | rfl) ?pre (by first | assumption | exact Uc.room3 (by assumption) (by decide) | exact Uc.room2 (by assumption) (by decide) | ktr_room) (by first | assumption | exact Uc.room3 (by assumption) (by decide) | exact Uc.room2 (by assumption) (by decide) | ktr_units) ?_); (case pre => first | exact trivial | assumption)
      first | refine kE1nv ?_ | refine kE1vn ?_
      intro pn' h' tk' F N
      repeat' (first | (walk_at "P") | (walk_at "F"; walk_at "T"))
      walk_at "H"; refine Turn.next (zs2.take i ++ [v], pn') (by assumption) N (fun _ hp => hp) (fun p hp => .inl (lex_off_all (P := fun a => a ∈ (lexLed w q (LN - cs.count 10) tl (zs2.take i) c ss sn ++ ((D2, lst zs2) :: [(Ol, oO), (Cl, oC), (209, tabObj tps), (Nl, lst zs), (Ml, lst ys), (L + 5, o5), (L + 4, o4), (L + 3, o3)])).map (·.1)) (fun p hp => List.mem_map_of_mem hp) p hp)) ⟨rfl, rfl, rfl, rfl, rfl, trivial⟩ (by dsimp only; rw [List.take_add_one, hv]; rfl)
    case done =>
      clear F9 N2
      refine fpLooR fun vs c => ?_
      intro u h tk hvs F N
      dsimp only at hvs F N ⊢
      rw [List.take_of_length_le (Nat.le_refl _)] at hvs
      subst hvs
      repeat' (first | (walk_at "P") | (walk_at "F"; walk_at "T"))
      exact ret _ _ tl _ ss sn cs _ _ hss hA hlen hL9 hS2 ⟨rfl, rfl, rfl, rfl, rfl, trivial⟩ (by assumption) (News.sub N fun p hp => (List.mem_append.mp hp).elim (List.mem_append_left _) fun h => List.mem_append_right _ (.tail _ h))
end
end Uc
end
section
namespace Uc
inductive WAre (sz : Nat) : List Value → List (Nat × List Nat) → Prop
  | nil : WAre sz [] []
  | cons {v : Value} {x : Nat × List Nat} {vs : List Value} {ws : List (Nat × List Nat)} : WW sz v x.1 x.2 → WAre sz vs ws → WAre sz (v :: vs) (x :: ws)
theorem WAre.len {sz : Nat} {vs : List Value} {ws : List (Nat × List Nat)} (h : WAre sz vs ws) : vs.length = ws.length := by
  induction h with
  | nil => rfl
  | cons _ _ ih => rw [List.length_cons, List.length_cons, ih]
theorem WAre.snoc {sz : Nat} {vs : List Value} {ws : List (Nat × List Nat)} (h : WAre sz vs ws) {v : Value} {x : Nat × List Nat} (hv : WW sz v x.1 x.2) : WAre sz (vs ++ [v]) (ws ++ [x]) := by
  induction h with
  | nil => exact .cons hv .nil
  | cons a _ ih => exact .cons a ih
structure WOk (x : Nat × List Nat) : Prop where
  c : x.1 ≤ 7
  n : NameOk x.2
theorem upd_ok {la : List Nat} {x : Nat × List Nat} (h : WOk x) : WOk (upd la x) := ⟨Nat.max_le.mpr ⟨h.c, Nat.sub_le _ _⟩, h.n⟩
theorem upd_pos {la : List Nat} {x : Nat × List Nat} (hla : NameOk la) (h : WOk x) : 1 ≤ (upd la x).1 := by
  have := (far_le hla h.n).2
  exact Nat.le_trans (Nat.sub_le_sub_left this 7) (Nat.le_max_right _ _)
noncomputable def emp : Str := Str.ofString ""
noncomputable def Held (sz : Nat) (la : List Nat) (ws : List (Nat × List Nat)) (i : Nat) (hv : Value) (dp : Int) (ps : List Value) : Prop :=
  ∃ (out : List (Nat × List Nat)) (pv ov : List Value), ps = pv ++ ov ∧ WAre sz pv (ws.drop i) ∧ WAre sz ov out ∧
    ((i = 0 ∧ (∃ t, hv = .str emp t) ∧ dp = 0 ∧ out = []) ∨ ∃ hx : Nat × List Nat, WW sz hv hx.1 hx.2 ∧ dp = (hx.1 : Int) ∧ WOk hx ∧ (hx :: out).Perm ((ws.take i).map (upd la)) ∧ ∀ x ∈ out, x.1 ≤ hx.1)
theorem held_pop {sz : Nat} {la : List Nat} {ws : List (Nat × List Nat)} {i : Nat} {hv : Value} {dp : Int} {ps : List Value} (h : Held sz la ws i hv dp ps) (hi : i < ws.length) :
    ∃ (x : Nat × List Nat) (v : Value) (ps' : List Value), ws[i]? = some x ∧ ps = v :: ps' ∧ WW sz v x.1 x.2 ∧ ps.length = ws.length - i + (if i = 0 then 0 else i - 1) := by
  (refine Uc.ex3 h fun out pv ov => Uc.an4 fun e1q h1 h2 h3 => ?_; clear h; subst e1q)
  have hx : ws[i]? = some ws[i] := List.getElem?_eq_getElem hi
  rw [List.drop_eq_getElem_cons hi] at h1
  have hl1 := h1.len
  have hl2 := h2.len
  have hlen : ov.length = if i = 0 then 0 else i - 1 := by
    rcases h3 with ⟨rfl, _, _, rfl⟩ | ⟨hx, _, _, _, hp, _⟩
    · rw [hl2]; rfl
    · have := hp.length_eq
      simp only [List.length_cons, List.length_map, List.length_take] at this
      rw [hl2]
      split <;> (walk_at "O")
  cases h1 with
  | cons a b =>
    refine ⟨_, _, _, hx, rfl, a, ?_⟩
    have hb := b.len
    rw [List.length_drop] at hb
    rw [List.length_append, List.length_cons, hlen, hb]
    (walk_at "O")
theorem take_perm {la : List Nat} {ws : List (Nat × List Nat)} {i : Nat} {x : Nat × List Nat} (hx : ws[i]? = some x) : (ws.take (i + 1)).map (upd la) = (ws.take i).map (upd la) ++ [upd la x] := by
  rw [List.take_add_one, hx]
  show List.map _ (_ ++ [x]) = _
  rw [List.map_append]; rfl
theorem held_first {sz : Nat} {la : List Nat} {ws : List (Nat × List Nat)} {hv v v' : Value} {dp : Int} {ps' : List Value} {x : Nat × List Nat} (h : Held sz la ws 0 hv dp (v :: ps')) (hx : ws[0]? = some x) (hw : WW sz v' (upd la x).1 (upd la x).2) (hok : WOk x) :
    Held sz la ws 1 v' ((upd la x).1 : Int) ps' := by
  (refine Uc.ex3 h fun out pv ov => Uc.an4 fun e h1 h2 h3 => ?_; clear h)
  rcases h3 with ⟨_, _, _, rfl⟩ | ⟨hx', _, _, _, hp, _⟩
  · cases h2
    rw [List.append_nil] at e
    subst e
    rw [drop_get hx] at h1
    cases h1 with
    | cons a b =>
      refine ⟨[], ps', [], (List.append_nil _).symm, b, .nil, .inr ⟨upd la x, hw, rfl, upd_ok hok, ?_, fun y hy => nomatch hy⟩⟩
      rw [take_perm hx]; exact List.Perm.refl _
  · have := hp.length_eq
    simp at this
theorem held_swap {sz : Nat} {la : List Nat} {ws : List (Nat × List Nat)} {i : Nat} {hv v v' : Value} {dp : Int} {ps' : List Value} {x : Nat × List Nat} (h : Held sz la ws i hv dp (v :: ps')) (hi : i ≠ 0) (hx : ws[i]? = some x) (hw : WW sz v' (upd la x).1 (upd la x).2) (hok : WOk x) (hgt : ((upd la x).1 : Int) > dp) :
    Held sz la ws (i + 1) v' ((upd la x).1 : Int) (ps' ++ [hv]) := by
  (refine Uc.ex3 h fun out pv ov => Uc.an4 fun e h1 h2 h3 => ?_; clear h)
  rcases h3 with ⟨rfl, _⟩ | ⟨hx', w1, w2, w3, hp, hm⟩
  · exact absurd rfl hi
  · rw [drop_get hx] at h1
    cases h1 with
    | cons a b =>
      rename_i v2 vs
      have e2 : v = v2 ∧ ps' = vs ++ ov := by
        rw [List.cons_append] at e
        injection e with e1 e2
        exact ⟨e1, e2⟩
      obtain ⟨rfl, rfl⟩ := e2
      refine ⟨out ++ [hx'], vs, ov ++ [hv], by rw [List.append_assoc], b, h2.snoc w1, .inr ⟨upd la x, hw, rfl, upd_ok hok, ?_, fun y hy => ?_⟩⟩
      · rw [take_perm hx]
        refine List.Perm.trans ?_ List.perm_append_comm
        refine List.Perm.cons _ ?_
        exact List.Perm.trans List.perm_append_comm hp
      · rcases List.mem_append.mp hy with hy | hy
        · have := hm y hy; (walk_at "O")
        · rw [List.mem_singleton.mp hy]; (walk_at "O")
theorem held_keep {sz : Nat} {la : List Nat} {ws : List (Nat × List Nat)} {i : Nat} {hv v v' : Value} {dp : Int} {ps' : List Value} {x : Nat × List Nat} (h : Held sz la ws i hv dp (v :: ps')) (hla : NameOk la) (hx : ws[i]? = some x) (hw : WW sz v' (upd la x).1 (upd la x).2) (hok : WOk x) (hle : ¬ ((upd la x).1 : Int) > dp) :
    Held sz la ws (i + 1) hv dp (ps' ++ [v']) := by
  (refine Uc.ex3 h fun out pv ov => Uc.an4 fun e h1 h2 h3 => ?_; clear h)
  rcases h3 with ⟨rfl, _, rfl, _⟩ | ⟨hx', w1, w2, w3, hp, hm⟩
  · have := upd_pos hla hok; (walk_at "O")
  · rw [drop_get hx] at h1
    cases h1 with
    | cons a b =>
      rename_i v2 vs
      have e2 : v = v2 ∧ ps' = vs ++ ov := by
        rw [List.cons_append] at e
        injection e with e1 e2
        exact ⟨e1, e2⟩
      obtain ⟨rfl, rfl⟩ := e2
      refine ⟨out ++ [upd la x], vs, ov ++ [v'], by rw [List.append_assoc], b, h2.snoc hw, .inr ⟨hx', w1, w2, w3, ?_, fun y hy => ?_⟩⟩
      · rw [take_perm hx]
        exact List.Perm.append_right [upd la x] hp
      · rcases List.mem_append.mp hy with hy | hy
        · exact hm y hy
        · rw [List.mem_singleton.mp hy]; (walk_at "O")
theorem held_str {sz : Nat} {la : List Nat} {ws : List (Nat × List Nat)} {i : Nat} {hv : Value} {dp : Int} {ps : List Value} (h : Held sz la ws i hv dp ps) (hws : ∀ x ∈ ws, WOk x) : ∃ (x : Str) (t : Tok), hv = .str x t ∧ ((i = 0 ∧ (x != Str.ofString "") = false ∧ dp = 0) ∨ (i ≠ 0 ∧ (x != Str.ofString "") = true ∧ 0 ≤ dp ∧ dp ≤ 7)) := by
  (refine Uc.ex3 h fun out pv ov => Uc.an4 fun _ _ _ h3 => ?_; clear h)
  rcases h3 with ⟨rfl, ⟨t, rfl⟩, e, _⟩ | ⟨hx, ⟨lead, t, rfl, _⟩, e, ho, hp, _⟩
  · exact ⟨_, t, rfl, .inl ⟨rfl, by decide, e⟩⟩
  · refine ⟨_, t, rfl, .inr ⟨?_, mkS_ne ho.n, by have := ho.c; (walk_at "O"), by have := ho.c; (walk_at "O")⟩⟩
    rintro rfl
    have := hp.length_eq
    simp at this
end Uc
end
section
local macro_rules | `(tactic| k_mem) => `(tactic| first | with_reducible assumption | exact List.mem_append_right _ (by with_reducible assumption))
namespace Uc
open PyProof.Rows.LCg
theorem held_tok {sz : Nat} {la : List Nat} {ws : List (Nat × List Nat)} {i : Nat} {x : Str} {t t' : Tok} {dp : Int} {ps : List Value} (h : Held sz la ws i (.str x t) dp ps) : Held sz la ws i (.str x t') dp ps := by
  (refine Uc.ex3 h fun out pv ov => Uc.an4 fun e h1 h2 h3 => ?_; clear h)
  refine ⟨out, pv, ov, e, h1, h2, ?_⟩
  rcases h3 with ⟨a, ⟨u, b⟩, c⟩ | ⟨hx, ⟨l, u, b, c⟩, d⟩
  · cases b; exact .inl ⟨a, ⟨t', rfl⟩, c⟩
  · cases b; exact .inr ⟨hx, ⟨l, t', rfl, c⟩, d⟩
theorem drop4 {α : Type} {a b c d : α} {l : List α} : ∀ p ∈ l, p ∈ a :: b :: c :: d :: l := fun _ h => .tail _ (.tail _ (.tail _ (.tail _ h)))
noncomputable def lbody : List Stmt := by
  refine (fun (_ : ls9 = .For ?a ?b ?c ?d ?e) => ?c) ?h
  case h => exact rfl
noncomputable def la1 : Stmt := by
  refine (fun (_ : lbody[1]? = some (.For ?a ?b ?c ?d ?e)) => .For ?a ?b ?c ?d ?e) ?h
  case h => exact rfl
section
variable (w : World) (p : Program) (loose : List Str) (mean : ExcName → Option Value) (mg mb : Str → Option Value)
theorem seg7i {h₀ : Heap} {L fa : Addr} {cd : Value} {s : Shared} {Q : Flow → Shared → Prop} {E : Value → Shared → Prop} {u : Str → Option Value} {A₀ : Around} {base : Heap} {outer : List Env} {dp un : Nat} {gd : Option (List Code)} (B : Below A₀ base outer h₀) (hpre : CodeHd base 213 209) (hdp : dp + 30 < recursionLimit) (hun : un + 120 < cLine) (hE : PassesOwn (model Pm w) (lawA dp un gd outer L fa cd) (lawEnv L fa cd) E) (X : (K w.params).In h₀) (T : Top p loose mean mg mb h₀)
    {o1 o3 o4 o5 oO oC : Obj} {I1 Ol Cl Ml Nl : Addr} {ys zs : List Value} {ts tt tw tle the tde : Tok} {sz left : Nat} {tps : Array Value} {q : Lex} {tl : Tok} {pn sn : Nat} {ss ps : List Value} {txt : Str} {la : List Nat} {LN : Int} {nums : List Nat} {ws : List (Nat × List Nat)} (d3 : o3.data = .cell (some (.ref Ml))) (d5 : o5.data = .cell (some (.ref q.X)))
    (hn : nums.length = 5) (hb : ∀ n ∈ nums, n < 1000000) (hI : IntsAre ys (nums.map fun (n : Nat) => (n : Int))) (hl5 : left < 5) (hwl : ws.length = left) (hwo : ∀ x ∈ ws, WOk x) (hws : WAre sz ps ws) (hla : NameOk la) (hs2 : 2 ≤ sz) (hs4 : sz ≤ 4)
    (ok : LexOk q [(I1, o1), (Ol, oO), (Cl, oC), (209, tabObj tps), (Nl, lst zs), (Ml, lst ys), (L + 5, o5), (L + 4, o4), (L + 3, o3)])
    (F : Fr h₀ L s.heap (fm u [(Str.ofString "held", .str emp the), (Str.ofString "deepest", .int 0 tde), (Str.ofString "left", .int (left : Int) tle), (Str.ofString "columns", .ref Cl), (Str.ofString "order", .ref Ol), (Str.ofString "latest", .str (mkS la) tw), (Str.ofString "size", .int ((sz : Nat) : Int) ts), (Str.ofString "text", .str txt tt)])) (N : News h₀ L s.heap (lexLed w q LN tl ps pn ss sn ++ [(I1, o1), (Ol, oO), (Cl, oC), (209, tabObj tps), (Nl, lst zs), (Ml, lst ys), (L + 5, o5), (L + 4, o4), (L + 3, o3)]))
    (ret : ∀ h' tk' hv dpv tde pn ps m', Held sz la ws left hv dpv ps → Has m' [(Str.ofString "held", hv), (Str.ofString "deepest", .int dpv tde), (Str.ofString "left", .int (left : Int) tle), (Str.ofString "columns", .ref Cl), (Str.ofString "order", .ref Ol), (Str.ofString "latest", .str (mkS la) tw), (Str.ofString "size", .int ((sz : Nat) : Int) ts), (Str.ofString "text", .str txt tt)] →
      Fr h₀ L h' m' → News h₀ L h' (lexLed w q LN tl ps pn ss sn ++ [(I1, o1), (Ol, oO), (Cl, oC), (209, tabObj tps), (Nl, lst zs), (Ml, lst ys), (L + 5, o5), (L + 4, o4), (L + 3, o3)]) → Q .next { s with heap := h', toks := tk' }) :
    wpAny (model Pm w) (lawA dp un gd outer L fa cd) (exec la1 (lawEnv L fa cd)) Q E s := by
  revert X
  dsimp only [Pm]
  k_fill
  intro X
  obtain ⟨rest, hrest⟩ : ∃ l, l = [(I1, o1), (Ol, oO), (Cl, oC), (209, tabObj tps), (Nl, lst zs), (Ml, lst ys), (L + 5, o5), (L + 4, o4), (L + 3, o3)] := ⟨_, rfl⟩
  have m3 : (L + 3, o3) ∈ rest := by rw [hrest]; k_mem
  have m5 : (L + 5, o5) ∈ rest := by rw [hrest]; k_mem
  have mM : (Ml, lst ys) ∈ rest := by rw [hrest]; k_mem
  rw [← hrest] at ok N ret
  clear hrest
  let C : Cx := ⟨PySem.Challenge.rw_uc0057_03.prog, w, lawA dp un gd outer L fa cd, E, h₀, L, s, glob, Str.ofString "law", f23_scope, fa, cd, lawCl L, Q, rfl, rfl, gl_ok X T⟩
  have okC : CxOk C p loose mean mg mb (fun h => CodeHd h 213 209) 30 120 := ⟨rfl, X, T, dp, un, gd, outer, A₀, base, rfl, rfl, B, hpre, hdp, hun⟩
  have key : At C (fm u [(Str.ofString "held", .str emp the), (Str.ofString "deepest", .int 0 tde), (Str.ofString "left", .int (left : Int) tle), (Str.ofString "columns", .ref Cl), (Str.ofString "order", .ref Ol), (Str.ofString "latest", .str (mkS la) tw), (Str.ofString "size", .int ((sz : Nat) : Int) ts), (Str.ofString "text", .str txt tt)]) (lexLed w q LN tl ps pn ss sn ++ rest) fun s => wpAny C.M C.A (exec la1 C.env) Q C.E s := by
    refine forR (C := C) Q left (σ := Value × Int × Tok × List Value × Nat) (fun c => lexLed w q LN tl c.2.2.2.1 c.2.2.2.2 ss sn ++ rest) (fun c => [(Str.ofString "held", c.1), (Str.ofString "deepest", .int c.2.1 c.2.2.1), (Str.ofString "left", .int (left : Int) tle), (Str.ofString "columns", .ref Cl), (Str.ofString "order", .ref Ol), (Str.ofString "latest", .str (mkS la) tw), (Str.ofString "size", .int ((sz : Nat) : Int) ts), (Str.ofString "text", .str txt tt)])
      (fun i c => Held sz la ws i c.1 c.2.1 c.2.2.2.1) (.str emp the, 0, tde, ps, pn) (range1 (b := (left : Int)) tb0 rfl rfl ?hb) (rsmall (by omega) (by omega) (by omega) (by omega) (by omega) (by omega)) (rsize1 rfl) hE rfl (fun _ => rfl) ⟨rfl, rfl, rfl, rfl, rfl, rfl, rfl, rfl, trivial⟩ ⟨[], ps, [], (List.append_nil _).symm, hws, .nil, .inl ⟨rfl, ⟨_, rfl⟩, rfl, rfl⟩⟩ ?turn ?done
    case hb => (first | (refine' Uc.Rs.holds_ok ?jp ?_; (case jp => exact rfl)) | (refine' Uc.Rs.holds_c ?jp ?jc ?_; (case jp => exact rfl); (case jc => first | omega | skip))); exact rfl
    case done =>
      refine fpLoooooR fun hv dpv td ps pn => ?_
      intro u hH h tk F N
      exact ret _ _ hv dpv td pn ps _ hH ⟨rfl, rfl, rfl, rfl, rfl, rfl, rfl, rfl, trivial⟩ F N
    case turn =>
      clear F N ret
      intro i ti
      refine fpLoooooR fun hv dpv td ps pn => ?_
      intro u I o hi hH hne hit C1
      dsimp -zeta only at hH hne ⊢
      (refine Uc.ex3 (held_pop hH (by omega)) fun w1q v ps' => Uc.an4 fun hxi e1q w2q hlp => ?_; subst e1q); obtain ⟨c0, nm⟩ := w1q; (refine Uc.ex2 w2q fun lead tv => Uc.an4 fun e1q e1 e2 e3 => ?_; clear w2q; subst e1q)
      have hxo := hwo _ (List.mem_of_getElem? hxi)
      have hnm : NameOk nm := hxo.n
      dsimp only at e1 e2 e3 hH
      have ok3 := LexOk.moreR (extra := [(I, o)]) ok (lex_off1 hne)
      have hl3 : nm.length ≤ 3 := hnm.len.2
      have ok1 : CxOk C1 p loose mean mg mb (fun h => CodeHd h 213 209) 30 120 := okC.setQ
      have hL := lev_fn w p loose mean mg mb ok1 rfl rfl
      have hD := lead_fn w p loose mean mg mb ok1 rfl rfl
      clear okC
      rw [List.append_assoc]
      obtain ⟨R1, hR1⟩ : ∃ l, l = rest ++ [(I, o)] := ⟨_, rfl⟩
      have n3 : (L + 3, o3) ∈ R1 := hR1 ▸ List.mem_append_left _ m3
      have n5 : (L + 5, o5) ∈ R1 := hR1 ▸ List.mem_append_left _ m5
      have nM : (Ml, lst ys) ∈ R1 := hR1 ▸ List.mem_append_left _ mM
      rw [← hR1] at ok3 ⊢
      refine J.gen [(Str.ofString "one", .int (i : Int) ti), (Str.ofString "held", hv), (Str.ofString "deepest", .int dpv td), (Str.ofString "left", .int (left : Int) tle), (Str.ofString "columns", .ref Cl), (Str.ofString "order", .ref Ol), (Str.ofString "latest", .str (mkS la) tw), (Str.ofString "size", .int ((sz : Nat) : Int) ts), (Str.ofString "text", .str txt tt)] ⟨congrArg some (int_is (by omega)), rfl, rfl, rfl, rfl, rfl, rfl, rfl, rfl, trivial⟩ fun u => ?_
      -- word = lexer.get_token()
      refine J.step fun h tk F N => ?_
      repeat' (first | (walk_at "P") | (walk_at "F"; walk_at "T"))
      (try dsimp only [List.append_nil, List.nil_append, List.cons_append])
      refine ok1.go (get_pushed w p loose mean mg mb R1 q LN tl _ ps' pn ss sn (by simp only [List.length_cons] at hlp; split at hlp <;> omega) ok3) (by assumption) (by assumption) (fun v1 n1 hR => ?_) (fun _ z => z)
      obtain ⟨pn', rfl, rfl⟩ : ∃ pn', n1 = lexLed w q LN tl ps' pn' ss sn ++ R1 ∧ v1 = .str (mkS (lead ++ nm)) tv := by obtain ⟨pn', a, b⟩ := hR; exact ⟨pn', a, b⟩
      clear F N hR
      intro h tk F N
      repeat' (first | (walk_at "P") | (walk_at "F"; walk_at "T"))
      refine J.next ?_ (by assumption) (by assumption)
      obtain ⟨L1, hL1⟩ : ∃ l, l = lexLed w q LN tl ps' pn' ss sn ++ R1 := ⟨_, rfl⟩
      rw [← hL1]
      have l3 : (L + 3, o3) ∈ L1 := hL1 ▸ List.mem_append_right _ n3
      have lM : (Ml, lst ys) ∈ L1 := hL1 ▸ List.mem_append_right _ nM
      -- row = Whitespace(word)
      refine J.step fun h tk F N => ?_
      repeat' (first | (walk_at "P") | (walk_at "F"; walk_at "T"))
      refine ok1.go (ws_make w p loose mean mg mb L1 (mkS (lead ++ nm)) _ (by rw [mkS_len, List.length_append]; omega)) (by assumption) (by assumption) (fun v1 n1 hR => ?_)
      (refine Uc.ex9 hR fun a d P T' vs tn tt2 tb k0 => Uc.xe4 fun k1 k2 k3 k4 => Uc.an3 fun hn1 e1q hvs => ?_; clear hR; subst e1q)
      have hcl : vs.length ≤ 100 := by
        have h1 := intsAre_len hvs
        have h2 := ws_cs (lead ++ nm)
        rw [List.length_append] at h2
        omega
      have s1 : ∀ p ∈ L1, p ∈ n1 := hn1 ▸ drop4
      have hA : AttrOk C1 n1 a (Str.ofString "n") (.int (lead.length : Int) tn) := by
        clear F N hL hD hE
        intro m nw hs Q q h tk F N0
        have N := News.sub N0 hs
        rw [hn1] at N
        repeat' (first | (walk_at "P") | (walk_at "F"; walk_at "T"))
        rw [e1]
        exact q _ _ F N0
      clear F N
      intro h tk F N
      repeat' (first | (walk_at "P") | (walk_at "F"; walk_at "T"))
      refine J.next ?_ (by assumption) (by assumption)
      -- deep = row.indent_level(size)
      refine J.step fun h tk F N => ?_
      rw [hn1] at N
      repeat' (first | (walk_at "P") | (walk_at "F"; walk_at "T"))
      refine ok1.go (indent w p loose mean mg mb L1 (mkS (lead ++ nm)) a d P T' vs _ tn tt2 tb k0 k1 k2 k3 k4 _ sz (by rw [mkS_len, List.length_append]; omega) hvs (by omega) (by omega) (by omega)) (by assumption) (by assumption) (fun v1 n2 hR => ?_)
      obtain ⟨rfl, t3, rfl⟩ := hR
      clear F N
      rw [← hn1, e2]
      intro h tk F N
      repeat' (first | (walk_at "P") | (walk_at "F"; walk_at "T"))
      refine J.next ?_ (by assumption) (by assumption)
      clear hn1 hvs hcl
      have hc7 : c0 ≤ 7 := hxo.c
      have hla3 := hla.len.2
      refine J.gen [(Str.ofString "row", .ref a), (Str.ofString "deep", .int (c0 : Int) t3), (Str.ofString "word", .str (mkS (lead ++ nm)) tv), (Str.ofString "one", .int (i : Int) ti), (Str.ofString "held", hv), (Str.ofString "deepest", .int dpv td), (Str.ofString "left", .int (left : Int) tle), (Str.ofString "columns", .ref Cl), (Str.ofString "order", .ref Ol), (Str.ofString "latest", .str (mkS la) tw), (Str.ofString "size", .int ((sz : Nat) : Int) ts), (Str.ofString "text", .str txt tt)] ⟨rfl, rfl, rfl, rfl, rfl, rfl, rfl, rfl, rfl, rfl, rfl, rfl, trivial⟩ fun u => ?_
      (refine Uc.ex1 (near_is hla hnm hc7) fun r => Uc.an4 fun er r0 rA rB => ?_)
      have hsl : Txt.slice (mkS (lead ++ nm)) (some (lead.length : Int)) none = mkS nm := slice_name _ _ rfl
      have hm1 : (mkS (lead ++ nm)).length ≤ 16777216 := by rw [mkS_len, List.length_append]; omega
      have hm2 : (mkS la).length ≤ 1000 := by rw [mkS_len]; omega
      have hm3 : (mkS nm).length ≤ 1000 := by rw [mkS_len]; omega
      refine' J.tab (TbOk.addA (TbOk.addF tb0 hL) (x := Str.ofString "row") (.loc ?hm rfl rfl) hA) fun ht => ?_
      case hm => exact rfl
      refine' J.asg_c ht ?jp rfl ?js ?jc fun t4 => ?_
      case jp => exact rfl
      case js => exact rfl
      case jc =>
        rw [hsl]
        exact ⟨hm1, hm2, hm3, by omega, by omega⟩
      dsimp only [PV.den]
      rw [hsl, er]
      clear ht
      refine J.iteJ (σ := Value × Tok) (fun _ => n1) (fun c => [(Str.ofString "word", c.1), (Str.ofString "deep", .int ((upd la (c0, nm)).1 : Int) c.2), (Str.ofString "held", hv), (Str.ofString "deepest", .int dpv td), (Str.ofString "left", .int (left : Int) tle), (Str.ofString "columns", .ref Cl), (Str.ofString "order", .ref Ol), (Str.ofString "latest", .str (mkS la) tw), (Str.ofString "size", .int ((sz : Nat) : Int) ts), (Str.ofString "text", .str txt tt)]) (fun c => WW sz c.1 (upd la (c0, nm)).1 nm) tb0 ?g1 ?g2
      case g1 =>
        (first | (refine' Uc.Bs.holds_ok ?jp ?_; (case jp => exact rfl)) | (refine' Uc.Bs.holds_c ?jp ?jc ?_; (case jp => exact rfl); (case jc => first | omega | skip)))
        refine ⟨fun hgt => ?_, fun hgt => ?_⟩
        · intro C2
          obtain ⟨a1, a2⟩ := rA hgt
          obtain ⟨n, hnj⟩ : ∃ n, nums[left]? = some n := ⟨_, List.getElem?_eq_getElem (by omega)⟩
          have hn6 : n < 1000000 := hb n (List.mem_of_getElem? hnj)
          have hln := lead_len hs2 hs4 (show 7 - far la nm ≤ 7 from Nat.sub_le _ _) (n + i)
          rw [a1]
          refine' J.tab (TbOk.addI (TbOk.addA (TbOk.addF tb0 hD) (x := Str.ofString "row") (.loc ?hm rfl rfl) hA) (x := Str.ofString "numbers") (.cell rfl (s1 _ l3) d3 rfl rfl) (.inl ⟨_, s1 _ lM⟩) hI) fun ht => ?_
          case hm => exact rfl
          refine' J.asg2 ht rfl rfl ?jw ?jx ?jy ?_
          case jw => exact rfl
          case jx => exact rfl
          case jy => exact rfl
          refine' Uc.Rs.holds_c ?jp ?jc ?_
          case jp => exact rfl
          have hnl : (nums.map fun (n : Nat) => (n : Int)).length = 5 := by rw [List.length_map, hn]
          case jc =>
            rw [getD_map hnj, hsl, ← Int.natCast_add, Int.toNat_natCast, Int.toNat_natCast, Int.toNat_natCast, hnl, str_len]
            exact ⟨⟨⟨⟨by decide, Int.natCast_nonneg _, by omega⟩, ⟨Int.natCast_nonneg _, by omega⟩, ⟨by omega, by omega⟩, Int.natCast_nonneg _, by omega⟩, hm1⟩, Nat.le_trans (Nat.add_le_add hln hm3) (by decide)⟩
          (first | (refine' Uc.Rs.holds_ok ?jp ?_; (case jp => exact rfl)) | (refine' Uc.Rs.holds_c ?jp ?jc ?_; (case jp => exact rfl); (case jc => first | omega | skip)))
          intro t5 t6
          dsimp only [PV.den, toPV]
          rw [getD_map hnj, hsl, ← Int.natCast_add, Int.toNat_natCast, Int.toNat_natCast, Int.toNat_natCast, show (⟨(leadOf (7 - far la nm) sz (n + i)).toArray⟩ : Str) ++ mkS nm = mkS (leadOf (7 - far la nm) sz (n + i) ++ nm) from app2 _ _]
          exact J.jn (.str (mkS (leadOf (7 - far la nm) sz (n + i) ++ nm)) t5, t6) ⟨rfl, by rw [a2]; rfl, rfl, rfl, rfl, rfl, rfl, rfl, rfl, rfl, trivial⟩ (by dsimp only; rw [a2]; exact ww_lead hnm hs2 hs4 (Nat.sub_le _ _) (n + i) _)
        · intro C2
          exact J.jn (.str (mkS (lead ++ nm)) tv, t3) ⟨rfl, by rw [rB hgt]; rfl, rfl, rfl, rfl, rfl, rfl, rfl, rfl, rfl, trivial⟩ (by dsimp only; rw [rB hgt]; exact ⟨lead, tv, rfl, e1, e2, e3⟩)
      case g2 =>
        have sl : ∀ p ∈ lexLed w q LN tl ps' pn' ss sn ++ R1, p ∈ n1 := fun p hp => s1 p (hL1 ▸ hp)
        clear hA hL hD hsl rA rB
        refine fpLooR fun v' td' => ?_
        intro u hW
        dsimp only at hW ⊢
        obtain ⟨xh, th, rfl, hxh⟩ := held_str hH hwo
        (refine Uc.ex2 (id hW) fun lead2 t2 => Uc.an4 fun e1q w1 w2 w3 => ?_; subst e1q)
        have hne2 := mkS_ne (l := lead2) hnm
        have hlp2 : ps'.length ≤ 500 := by
          simp only [List.length_cons] at hlp
          split at hlp <;> omega
        have off : ∀ (ps2 : List Value) (pn2 : Nat), ∀ p ∈ lexLed w q LN tl ps2 pn2 ss sn ++ rest, p.1 ∈ (lexLed w q LN tl (.str (mkS (lead ++ nm)) tv :: ps') pn ss sn ++ rest).map (·.1) ∨ isIt p.2 = false :=
          fun ps2 pn2 p hp => .inl (lex_off_all (P := fun a => a ∈ (lexLed w q LN tl (.str (mkS (lead ++ nm)) tv :: ps') pn ss sn ++ rest).map (·.1)) (fun p hp => List.mem_map_of_mem hp) p hp)
        have fit : ∀ (ps2 : List Value) (pn2 : Nat), ∀ p ∈ lexLed w q LN tl ps2 pn2 ss sn ++ rest ++ [(I, o)], p ∈ lexLed w q LN tl ps2 pn2 ss sn ++ R1 := fun ps2 pn2 p hp => by rw [hR1, ← List.append_assoc]; exact hp
        ((repeat (refine Uc.J.nil ?_)); (first | (refine' Uc.J.ite ?ht ?jp ?_ ?_; (case ht => walk_at "h"); (case jp => exact rfl)) | (refine' Uc.J.ite_c ?ht ?jp ?jc ?_ ?_; (case ht => walk_at "h"); (case jp => exact rfl); (case jc => first | omega | skip)))) <;> intro hgt
        · ((repeat (refine Uc.J.nil ?_)); (refine' Uc.J.asg3 ?ht rfl rfl rfl ?jw ?jx ?jy ?jz ?_; (case ht => walk_at "h"); (case jw => exact rfl); (case jx => exact rfl); (case jy => exact rfl); (case jz => exact rfl); (first | (refine' Uc.Rs.holds_ok ?jp ?_; (case jp => exact rfl)) | (refine' Uc.Rs.holds_c ?jp ?jc ?_; (case jp => exact rfl); (case jc => first | omega | skip))); (first | (refine' Uc.Rs.holds_ok ?jp ?_; (case jp => exact rfl)) | (refine' Uc.Rs.holds_c ?jp ?jc ?_; (case jp => exact rfl); (case jc => first | omega | skip))); (first | (refine' Uc.Rs.holds_ok ?jp ?_; (case jp => exact rfl)) | (refine' Uc.Rs.holds_c ?jp ?jc ?_; (case jp => exact rfl); (case jc => first | omega | skip)))))
          intro t7 t8 t9
          dsimp only [PV.den, toPV]
          have hW8 : WW sz (.str (mkS (lead2 ++ nm)) t8) (upd la (c0, nm)).1 nm := ⟨lead2, t8, rfl, w1, w2, w3⟩
          ((repeat (refine Uc.J.nil ?_)); (first | (refine' Uc.J.ite ?ht ?jp ?_ ?_; (case ht => walk_at "h"); (case jp => exact rfl)) | (refine' Uc.J.ite_c ?ht ?jp ?jc ?_ ?_; (case ht => walk_at "h"); (case jp => exact rfl); (case jc => first | omega | skip)))) <;> intro hx1
          · have hi0 : i ≠ 0 := by
              rcases hxh with ⟨_, hx2, _⟩ | ⟨h2, _⟩
              · exact absurd (by simpa using hx2) hx1
              · exact h2
            refine J.step fun h tk F N => ?_
            have N2 := News.sub N sl
            clear N
            repeat' (first | (walk_at "P") | (walk_at "F"; walk_at "T"))
            refine ok1.go (push_c w p loose mean mg mb R1 q LN tl ps' pn' ss sn (.str xh t7) (by omega) ok3) (by assumption) (by assumption) (fun v1 n2 hR => ?_) (fun _ z => z)
            obtain ⟨pn5, rfl, rfl⟩ : ∃ pn', n2 = lexLed w q LN tl (ps' ++ [.str xh t7]) pn' ss sn ++ R1 ∧ v1 = .none := by obtain ⟨pn', a, b⟩ := hR; exact ⟨pn', a, b⟩
            clear F N2 hR
            intro h tk F N
            repeat' (first | (walk_at "P") | (walk_at "F"; walk_at "T"))
            refine J.next ?_ (by assumption) (by assumption)
            (repeat (refine Uc.J.nil ?_))
            exact J.tn (_, _, _, _, pn5) ⟨rfl, rfl, rfl, rfl, rfl, rfl, rfl, rfl, trivial⟩ (held_swap (held_tok hH) hi0 hxi hW8 hxo hgt) (off _ _) (fit _ _)
          · have hi0 : i = 0 := by
              rcases hxh with ⟨h2, _⟩ | ⟨_, hx2, _⟩
              · exact h2
              · exact absurd (by simpa using hx1) (by simpa using hx2)
            subst hi0
            (repeat (refine Uc.J.nil ?_))
            exact J.tn (_, _, _, ps', pn') ⟨rfl, rfl, rfl, rfl, rfl, rfl, rfl, rfl, trivial⟩ (held_first hH hxi hW8 hxo) (off _ _) fun p hp => sl p (fit _ _ p hp)
        · ((repeat (refine Uc.J.nil ?_)); (first | (refine' Uc.J.ite ?ht ?jp ?_ ?_; (case ht => walk_at "h"); (case jp => exact rfl)) | (refine' Uc.J.ite_c ?ht ?jp ?jc ?_ ?_; (case ht => walk_at "h"); (case jp => exact rfl); (case jc => first | omega | skip)))) <;> intro hx1
          · refine J.step fun h tk F N => ?_
            have N2 := News.sub N sl
            clear N
            repeat' (first | (walk_at "P") | (walk_at "F"; walk_at "T"))
            refine ok1.go (push_c w p loose mean mg mb R1 q LN tl ps' pn' ss sn (.str (mkS (lead2 ++ nm)) t2) (by omega) ok3) (by assumption) (by assumption) (fun v1 n2 hR => ?_) (fun _ z => z)
            obtain ⟨pn5, rfl, rfl⟩ : ∃ pn', n2 = lexLed w q LN tl (ps' ++ [.str (mkS (lead2 ++ nm)) t2]) pn' ss sn ++ R1 ∧ v1 = .none := by obtain ⟨pn', a, b⟩ := hR; exact ⟨pn', a, b⟩
            clear F N2 hR
            intro h tk F N
            repeat' (first | (walk_at "P") | (walk_at "F"; walk_at "T"))
            refine J.next ?_ (by assumption) (by assumption)
            (repeat (refine Uc.J.nil ?_))
            exact J.tn (_, _, _, _, pn5) ⟨rfl, rfl, rfl, rfl, rfl, rfl, rfl, rfl, trivial⟩ (held_keep hH hla hxi hW hxo hgt) (off _ _) (fit _ _)
          · exact absurd hx1 (by simpa using hne2)
  exact key s.heap s.toks F N
end
end Uc
end
section
namespace Uc
noncomputable def mostOf (os : List (List Nat)) (n : List Nat) : Nat := os.foldl (fun m u => max m (7 - far u n)) 0
theorem most_snoc (os : List (List Nat)) (u n : List Nat) : mostOf (os ++ [u]) n = max (mostOf os n) (7 - far u n) := by unfold mostOf; rw [List.foldl_append]; rfl
structure Run (nms : List (List Nat)) (os : List (List Nat)) (cs : List Nat) (ws : List (Nat × List Nat)) : Prop where
  lenO : os.length = cs.length + 1
  lenW : os.length + ws.length = nms.length
  first : os.head? = nms.head?
  perm : (os ++ ws.map (·.2)).Perm nms
  wok : ∀ x ∈ ws, WOk x
  col : ∀ x ∈ ws, x.1 = mostOf os.dropLast x.2
  link : ∀ k, k < cs.length → cs[k]? = (os[k + 1]?).map (mostOf (os.take (k + 1))) ∧ (∀ n ∈ os.drop (k + 1), mostOf (os.take (k + 1)) n ≤ cs.getD k 0) ∧ ∀ x ∈ ws, mostOf (os.take (k + 1)) x.2 ≤ cs.getD k 0
  nok : ∀ n ∈ nms, NameOk n
theorem run_start {n : List Nat} {ns : List (List Nat)} (h : ∀ m ∈ n :: ns, NameOk m) : Run (n :: ns) [n] [] (ns.map fun m => (0, m)) where
  lenO := rfl
  lenW := by rw [List.length_map, List.length_cons]; simp; (walk_at "O")
  first := rfl
  perm := by rw [List.map_map]; show (n :: (ns.map (fun x => x))).Perm _; rw [List.map_id']
  wok := fun x hx => by obtain ⟨m, hm, rfl⟩ := List.mem_map.mp hx; exact ⟨Nat.zero_le _, h m (.tail _ hm)⟩
  col := fun x hx => by obtain ⟨m, _, rfl⟩ := List.mem_map.mp hx; rfl
  link := fun k hk => absurd hk (Nat.not_lt_zero _)
  nok := h
theorem Run.os_ok {nms os : List (List Nat)} {cs : List Nat} {ws : List (Nat × List Nat)} (r : Run nms os cs ws) : ∀ n ∈ os, NameOk n := fun n hn => r.nok n (r.perm.mem_iff.mp (List.mem_append_left _ hn))
theorem Run.next {nms os : List (List Nat)} {cs : List Nat} {ws out : List (Nat × List Nat)} {la : List Nat} {hx : Nat × List Nat} (r : Run nms (os ++ [la]) cs ws) (hp : (hx :: out).Perm (ws.map (upd la))) (hm : ∀ x ∈ out, x.1 ≤ hx.1) (hok : WOk hx) :
    Run nms (os ++ [la] ++ [hx.2]) (cs ++ [hx.1]) out := by
  have hlen := hp.length_eq
  rw [List.length_cons, List.length_map] at hlen
  have hupd : ∀ x ∈ hx :: out, ∃ y ∈ ws, x = upd la y := fun x hx' => by
    obtain ⟨y, hy, e⟩ := List.mem_map.mp (hp.mem_iff.mp hx')
    exact ⟨y, hy, e.symm⟩
  have hcol : ∀ x ∈ hx :: out, x.1 = mostOf (os ++ [la]) x.2 := fun x hx' => by
    obtain ⟨y, hy, rfl⟩ := hupd x hx'
    rw [most_snoc]
    have := r.col y hy
    rw [List.dropLast_concat] at this
    unfold upd
    (try dsimp only)
    rw [this]
  have h2 : ((hx :: out).map (·.2)).Perm (ws.map (·.2)) := by
    have := hp.map (·.2)
    rw [List.map_map] at this
    exact this
  have lc : (os ++ [la]).length = cs.length + 1 := r.lenO
  refine ⟨?_, ?_, ?_, ?_, ?_, ?_, ?_, r.nok⟩
  · rw [List.length_append (as := os ++ [la]), lc, List.length_append]; rfl
  · have := r.lenW
    rw [List.length_append (as := os ++ [la])]
    simp only [List.length_cons, List.length_nil]
    (walk_at "O")
  · rw [← r.first, List.append_assoc]
    cases os <;> rfl
  · rw [List.append_assoc]
    refine List.Perm.trans ?_ r.perm
    exact List.Perm.append_left _ h2
  · intro x hx'
    obtain ⟨y, hy, rfl⟩ := hupd x (.tail _ hx')
    exact upd_ok (r.wok y hy)
  · intro x hx'
    rw [List.dropLast_concat]
    exact hcol x (.tail _ hx')
  · intro k hk
    rw [List.length_append, List.length_singleton] at hk
    by_cases hk2 : k < cs.length
    · obtain ⟨l1, l2, l3⟩ := r.link k hk2
      have tk : (os ++ [la] ++ [hx.2]).take (k + 1) = (os ++ [la]).take (k + 1) := List.take_append_of_le_length (by (walk_at "O"))
      rw [tk, List.getElem?_append_left hk2, List.getElem?_append_left (by (walk_at "O") : k + 1 < (os ++ [la]).length)]
      have gd : (cs ++ [hx.1]).getD k 0 = cs.getD k 0 := by rw [List.getD_eq_getElem?_getD, List.getD_eq_getElem?_getD, List.getElem?_append_left hk2]
      rw [gd]
      refine ⟨l1, fun n hn => ?_, fun x hx' => ?_⟩
      · rw [List.drop_append_of_le_length (by (walk_at "O"))] at hn
        rcases List.mem_append.mp hn with hn | hn
        · exact l2 n hn
        · rw [List.mem_singleton.mp hn]
          obtain ⟨y, hy, e⟩ := hupd hx (.head _)
          have := l3 y hy
          rw [e]; exact this
      · obtain ⟨y, hy, rfl⟩ := hupd x (.tail _ hx')
        exact l3 y hy
    · have hk3 : k = cs.length := by (walk_at "O")
      subst hk3
      have tk : (os ++ [la] ++ [hx.2]).take (cs.length + 1) = os ++ [la] := by rw [← lc, List.take_left]
      have dr : (os ++ [la] ++ [hx.2]).drop (cs.length + 1) = [hx.2] := by rw [← lc, List.drop_left]
      rw [tk, dr, List.getElem?_append_right (Nat.le_refl _), Nat.sub_self, List.getElem?_append_right (by (walk_at "O")), lc, Nat.sub_self]
      have gd : (cs ++ [hx.1]).getD cs.length 0 = hx.1 := by rw [List.getD_eq_getElem?_getD, List.getElem?_append_right (Nat.le_refl _), Nat.sub_self]; rfl
      rw [gd]
      refine ⟨?_, fun n hn => ?_, fun x hx' => ?_⟩
      · show some hx.1 = some (mostOf (os ++ [la]) hx.2)
        rw [← hcol hx (.head _)]
      · rw [List.mem_singleton.mp hn, ← hcol hx (.head _)]
        exact Nat.le_refl _
      · rw [← hcol x (.tail _ hx')]
        exact hm x hx'
theorem held_end {sz : Nat} {la : List Nat} {ws : List (Nat × List Nat)} {i : Nat} {hv : Value} {dp : Int} {ps : List Value} (h : Held sz la ws i hv dp ps) (hi : i ≠ 0) (hl : ws.length = i) :
    ∃ (hx : Nat × List Nat) (out : List (Nat × List Nat)), WW sz hv hx.1 hx.2 ∧ WAre sz ps out ∧ WOk hx ∧ (hx :: out).Perm (ws.map (upd la)) ∧ ∀ x ∈ out, x.1 ≤ hx.1 := by
  (refine Uc.ex3 h fun out pv ov => Uc.an4 fun e1q h1 h2 h3 => ?_; clear h; subst e1q)
  rcases h3 with ⟨rfl, _⟩ | ⟨hx, a, b, c, d, e⟩
  · exact absurd rfl hi
  · rw [List.drop_of_length_le (by (walk_at "O"))] at h1
    rw [List.take_of_length_le (by (walk_at "O"))] at d
    cases h1
    exact ⟨hx, out, a, h2, c, d, e⟩
end Uc
end
section
namespace Uc
open PyProof.Rows.LCg
theorem neD {h₀ h : Heap} {L a b : Addr} {oa ob : Obj} {l : Led} (N : News h₀ L h l) (ha : (a, oa) ∈ l) (hb : (b, ob) ∈ l) (hd : oa ≠ ob) : a ≠ b := fun e => by
  have x := (N _ ha).1
  have y := (N _ hb).1
  dsimp only at x y
  rw [e, y] at x
  exact hd (Option.some.inj x).symm
theorem lex_ne_list {w : World} {q : Lex} {ln : Int} {tl : Tok} {ps ss : List Value} {pn sn : Nat} {R l : Led} {h₀ h : Heap} {L b : Addr} {vs : Array Value} {k : Nat} (ok : LexOk q R) (h1 : b ≠ q.PB) (h2 : b ≠ q.SG) (N : News h₀ L h l) (hl : ∀ p ∈ lexLed w q ln tl ps pn ss sn, p ∈ l) (hb : (b, listOf vs k) ∈ l) : ∀ p ∈ lexLed w q ln tl ps pn ss sn, p.1 ≠ b := fun p hp => by
  have hp' := hl p hp
  simp only [lexLed, List.mem_cons, List.not_mem_nil, or_false] at hp
  rcases hp with rfl | rfl | rfl | rfl | rfl | rfl | rfl | rfl | rfl
  · exact neD N hp' hb fun e => by have := congrArg Obj.cls e; cases this
  · exact neD N hp' hb fun e => by have z := congrArg Obj.cls e; injection z with z; exact absurd z (by decide)
  · exact Ne.symm h1
  · exact neD N hp' hb fun e => by have z := congrArg Obj.cls e; injection z with z; exact absurd z (by decide)
  · exact neD N hp' hb fun e => by have z := congrArg Obj.cls e; injection z with z; exact absurd z (by decide)
  · exact neD N hp' hb fun e => by have z := congrArg Obj.cls e; injection z with z; exact absurd z (by decide)
  · exact neD N hp' hb fun e => by have c := ok.c1; rw [e] at c; cases c
  · exact neD N hp' hb fun e => by have c := ok.c3; rw [e] at c; cases c
  · exact Ne.symm h2
theorem toFm {h₀ h : Heap} {L : Addr} {m : Str → Option Value} (F : Fr h₀ L h m) (l : Nms) (hk : Has m l) : Fr h₀ L h (fm m l) := by rw [fm_eq hk]; exact F
theorem name4 {h₀ h : Heap} {L : Addr} {a b c d : Addr × Obj} {l : Led} (N : News h₀ L h (a :: b :: c :: d :: l)) : ∃ Wr : Led, Wr = [a, b, c, d] ∧ News h₀ L h (Wr ++ l) := ⟨_, rfl, N⟩
theorem name1 {h₀ h : Heap} {L : Addr} {a : Addr × Obj} {l : Led} (N : News h₀ L h (a :: l)) : ∃ x, x = a ∧ News h₀ L h (x :: l) := ⟨_, rfl, N⟩
theorem permI {α : Type} {O : α} {k l : List α} : ∀ p ∈ k ++ (O :: l), p ∈ O :: (k ++ l) := fun p hp => by
  simp only [List.mem_cons, List.mem_append] at hp ⊢
  rcases hp with h | h | h <;> simp [h]
theorem cons4 {h₀ h : Heap} {L : Addr} {a b c d : Addr × Obj} {l : Led} (N : News h₀ L h ([a, b, c, d] ++ l)) : News h₀ L h (a :: b :: c :: d :: l) := N
theorem uncons4 {h₀ h : Heap} {L : Addr} {a b c d : Addr × Obj} {l : Led} (N : News h₀ L h (a :: b :: c :: d :: l)) : News h₀ L h ([a, b, c, d] ++ l) := N
theorem permC {α : Type} {i O C : α} {k l r : List α} : ∀ p ∈ C :: (k ++ (O :: (l ++ (i :: r)))), p ∈ k ++ (O :: (l ++ (i :: C :: r))) := fun p hp => by
  simp only [List.mem_cons, List.mem_append] at hp ⊢
  rcases hp with h | h | h | h | h | h <;> simp [h]
theorem lex_off_all2 {w : World} {q : Lex} {ln ln' : Int} {tl tl' : Tok} {ps ss ps' ss' : List Value} {pn sn pn' sn' : Nat} {R R' : Led} {P : Addr → Prop} (h : ∀ p ∈ lexLed w q ln tl ps pn ss sn ++ R, P p.1) (hR : ∀ p ∈ R', ∃ r ∈ R, r.1 = p.1) : ∀ p ∈ lexLed w q ln' tl' ps' pn' ss' sn' ++ R', P p.1 := fun p hp => by
  rcases List.mem_append.mp hp with hp | hp
  · exact lex_off_all (R := R) h p (List.mem_append_left _ hp)
  · obtain ⟨r, hr, e⟩ := hR p hp
    rw [← e]; exact h r (List.mem_append_right _ hr)
theorem permE {α : Type} {i O C : α} {k l r : List α} : ∀ p ∈ (l ++ (O :: C :: r)) ++ [i], p ∈ C :: (k ++ (O :: (l ++ (i :: r)))) := fun p hp => by
  simp only [List.mem_cons, List.mem_append, List.not_mem_nil, or_false] at hp ⊢
  rcases hp with (h | h | h | h) | h <;> simp [h]
theorem permO {α : Type} {i O C : α} {k l r : List α} : ∀ p ∈ O :: (k ++ (l ++ (i :: C :: r))), p ∈ k ++ (l ++ (i :: O :: C :: r)) := fun p hp => by
  simp only [List.mem_cons, List.mem_append] at hp ⊢
  rcases hp with h | h | h | h | h | h <;> simp [h]
section
variable (w : World) (p : Program) (loose : List Str) (mean : ExcName → Option Value) (mg mb : Str → Option Value)
theorem seg7 {h₀ : Heap} {L fa : Addr} {cd : Value} {s : Shared} {Q : Flow → Shared → Prop} {E : Value → Shared → Prop} {u : Str → Option Value} {A₀ : Around} {base : Heap} {outer : List Env} {dp un : Nat} {gd : Option (List Code)} (B : Below A₀ base outer h₀) (hpre : CodeHd base 213 209) (hdp : dp + 30 < recursionLimit) (hun : un + 120 < cLine) (hE : PassesOwn (model Pm w) (lawA dp un gd outer L fa cd) (lawEnv L fa cd) E) (X : (K w.params).In h₀) (T : Top p loose mean mg mb h₀)
    {o3 o4 o5 : Obj} {Ol Cl Ml Nl : Addr} {ys zs : List Value} {ts tt tw : Tok} {sz : Nat} {tps : Array Value} {q : Lex} {tl : Tok} {pn sn : Nat} {ss ps ovs cvs : List Value} {oc cc : Nat} {txt : Str} {la : List Nat} {LN : Int} {nums : List Nat} {nms : List (List Nat)} {ws : List (Nat × List Nat)} (d3 : o3.data = .cell (some (.ref Ml))) (d5 : o5.data = .cell (some (.ref q.X)))
    (hn : nums.length = 5) (hb : ∀ n ∈ nums, n < 1000000) (hI : IntsAre ys (nums.map fun (n : Nat) => (n : Int))) (hnms : nms.length = 5) (hrun : Run nms [la] [] ws) (hws : WAre sz ps ws) (hO : StrsAre ovs ([la].map mkS)) (hC : IntsAre cvs []) (hs2 : 2 ≤ sz) (hs4 : sz ≤ 4)
    (hOC : @Ne Nat Ol Cl) (hlt : ∀ r ∈ [(209, tabObj tps), (Nl, lst zs), (Ml, lst ys), (L + 5, o5), (L + 4, o4), (L + 3, o3)], @LT.lt Nat _ r.1 Ol ∧ @LT.lt Nat _ r.1 Cl)
    (ok : LexOk q [(Ol, listOf ovs.toArray oc), (Cl, listOf cvs.toArray cc), (209, tabObj tps), (Nl, lst zs), (Ml, lst ys), (L + 5, o5), (L + 4, o4), (L + 3, o3)])
    (F : Fr h₀ L s.heap (fm u [(Str.ofString "columns", .ref Cl), (Str.ofString "order", .ref Ol), (Str.ofString "latest", .str (mkS la) tw), (Str.ofString "size", .int ((sz : Nat) : Int) ts), (Str.ofString "text", .str txt tt)])) (N : News h₀ L s.heap (lexLed w q LN tl ps pn ss sn ++ [(Ol, listOf ovs.toArray oc), (Cl, listOf cvs.toArray cc), (209, tabObj tps), (Nl, lst zs), (Ml, lst ys), (L + 5, o5), (L + 4, o4), (L + 3, o3)]))
    (ret : ∀ h' tk' pn ovs oc cvs cc m' os cs, Run nms os cs [] → os.length = 5 → StrsAre ovs (os.map mkS) → IntsAre cvs (cs.map fun (n : Nat) => (n : Int)) → Has m' [(Str.ofString "columns", .ref Cl), (Str.ofString "order", .ref Ol), (Str.ofString "text", .str txt tt)] →
      Fr h₀ L h' m' → News h₀ L h' (lexLed w q LN tl [] pn ss sn ++ [(Ol, listOf ovs.toArray oc), (Cl, listOf cvs.toArray cc), (209, tabObj tps), (Nl, lst zs), (Ml, lst ys), (L + 5, o5), (L + 4, o4), (L + 3, o3)]) → Q .next { s with heap := h', toks := tk' }) :
    wpAny (model Pm w) (lawA dp un gd outer L fa cd) (exec ls9 (lawEnv L fa cd)) Q E s := by
  revert X
  dsimp only [Pm]
  k_fill
  intro X
  unfold ls9
  dsimp only [lawEnv, lawA, lawCl]
  walk_at "H"
  refine For_invV (hE := hE) h₀ (by rfl) (by rfl) ?_
  repeat' (first | (walk_at "P") | (walk_at "F"; walk_at "T"))
  rename Fr _ _ _ _ => F9
  rename News _ _ _ _ => N9
  refine iter_range (n := 4) (σ := (List Value × Nat) × (List Value × Nat) × (List Value × Nat) × List Nat × Tok) (fun c => lexLed w q LN tl c.1.1 c.1.2 ss sn ++ [(Ol, listOf c.2.1.1.toArray c.2.1.2), (Cl, listOf c.2.2.1.1.toArray c.2.2.1.2), (209, tabObj tps), (Nl, lst zs), (Ml, lst ys), (L + 5, o5), (L + 4, o4), (L + 3, o3)]) (fun c => [(Str.ofString "columns", .ref Cl), (Str.ofString "order", .ref Ol), (Str.ofString "latest", .str (mkS c.2.2.2.1) c.2.2.2.2), (Str.ofString "size", .int ((sz : Nat) : Int) ts), (Str.ofString "text", .str txt tt)])
    (fun i c => ∃ os cs ws, Run nms (os ++ [c.2.2.2.1]) cs ws ∧ os.length = i ∧ StrsAre c.2.1.1 ((os ++ [c.2.2.2.1]).map mkS) ∧ IntsAre c.2.2.1.1 (cs.map fun (n : Nat) => (n : Int)) ∧ WAre sz c.1.1 ws) ((ps, pn), (ovs, oc), (cvs, cc), la, tw) rfl (by assumption) (by decide) (by decide) F9 N9 ⟨rfl, rfl, rfl, rfl, rfl, trivial⟩ ⟨[], [], ws, hrun, rfl, hO, hC, hws⟩ ?turn ?done
  case turn =>
    clear F9 N9
    intro i ti
    refine fpLLooRLooRLooRooR fun ps pn ovs oc cvs cc la tw => ?_
    intro u h tk I o hi hR42z hne hit F N
    (refine Uc.ex3 hR42z fun os cs ws => Uc.an5 fun hR hol hO hC hW => ?_; clear hR42z)
    dsimp only at hR hO hC hW hne F N ⊢
    rw [show (4 : Int) + (i : Int) * (-1) = ((4 - i : Nat) : Int) by (walk_at "O")] at F
    have hlw := hR.lenW
    rw [List.length_append, List.length_singleton, hnms] at hlw
    have hcl : cs.length = i := by have := hR.lenO; rw [List.length_append, List.length_singleton] at this; (walk_at "O")
    have hla : NameOk la := hR.os_ok la (List.mem_append_right _ (.head _))
    have ok2 : LexOk q [(Ol, listOf ovs.toArray oc), (Cl, listOf cvs.toArray cc), (209, tabObj tps), (Nl, lst zs), (Ml, lst ys), (L + 5, o5), (L + 4, o4), (L + 3, o3)] := ok.sub fun p hp => by
      rcases List.mem_cons.mp hp with rfl | hp
      · exact ⟨_, .head _, rfl⟩
      rcases List.mem_cons.mp hp with rfl | hp
      · exact ⟨_, .tail _ (.head _), rfl⟩
      · exact ⟨p, .tail _ (.tail _ hp), rfl⟩
    have ok3 := LexOk.more (extra := [(I, o)]) ok2 (lex_off1 hne)
    have N2 := News.sub (b := lexLed w q LN tl ps pn ss sn ++ ((I, o) :: [(Ol, listOf ovs.toArray oc), (Cl, listOf cvs.toArray cc), (209, tabObj tps), (Nl, lst zs), (Ml, lst ys), (L + 5, o5), (L + 4, o4), (L + 3, o3)])) N (fun p hp => by
      rcases List.mem_append.mp hp with hp | hp
      · exact List.mem_append_left _ (List.mem_append_left _ hp)
      rcases List.mem_cons.mp hp with rfl | hp
      · exact List.mem_append_right _ (.head _)
      · exact List.mem_append_left _ (List.mem_append_right _ hp))
    clear N
    repeat' (first | (walk_at "P") | (walk_at "F"; (fail_if_success (with_reducible show wpAny _ _ (execs (PySem.Stmt.For _ _ _ _ ⟨219, _, _, _⟩ :: _) _) _ _ _)); walk_at "T"))
    (try dsimp only)
    walk_at "H"
    refine wpAny_execs_cons ?_
    rename Fr _ _ _ _ => F8
    rename News _ _ _ _ => N8
    refine seg7i w p loose mean mg mb B hpre hdp hun hE X T d3 d5 hn hb hI (left := 4 - i) (by (walk_at "O")) (by (walk_at "O")) hR.wok hW hla hs2 hs4 ok3 (toFm F8 _ ⟨rfl, rfl, rfl, rfl, rfl, rfl, rfl, rfl, trivial⟩) (News.sub N8 fun p hp => .tail _ hp) ?_
    rintro h7 tk7 hv dpv td pn7 ps7 m7 hH hHas F N
    have w1q := held_end hH (by (walk_at "O")) (by (walk_at "O")); (refine Uc.ex2 w1q fun hx out => Uc.an5 fun w2q hWo hxo hp hm => ?_; clear w1q); (refine Uc.ex2 w2q fun lead tv => Uc.an4 fun e1q e1 e2 e3 => ?_; clear w2q; subst e1q)
    rw [← fm_eq hHas] at F
    have hnm := hxo.n
    have hl3 := hnm.len.2
    (try dsimp only)
    repeat' (first | (walk_at "P") | (walk_at "F"; walk_at "T"))
    (refine ws_make w p loose mean mg mb (lexLed w q LN tl ps7 pn7 ss sn ++ ((I, o) :: [(Ol, listOf ovs.toArray oc), (Cl, listOf cvs.toArray cc), (209, tabObj tps), (Nl, lst zs), (Ml, lst ys), (L + 5, o5), (L + 4, o4), (L + 3, o3)])) (mkS (lead ++ hx.2)) _ (by rw [mkS_len, List.length_append]; (walk_at "O")) _ _ _ _ _ _ _ _ _ _ _ _ _ _ _ _ _ (by assumption) (by assumption) (by assumption) (by assumption) (by assumption) (by first | assumption | rfl) ?pre (by first | assumption | exact Uc.room3 (by assumption) (by decide) | exact Uc.room2 (by assumption) (by decide) | ktr_room) (by first | assumption | exact Uc.room3 (by assumption) (by decide) | exact Uc.room2 (by assumption) (by decide) | ktr_units) ?_); (case pre => first | exact trivial | assumption)
    first | refine kE13nvp ?_ | refine kE13vnp ?_
    intro a d P T' vs tn tt2 tb k0 k1 k2 k3 k4 h' tk' hvs F N
    have hcl : vs.length ≤ 100 := by
      have h1 := intsAre_len hvs
      have h2 := ws_cs (lead ++ hx.2)
      rw [List.length_append] at h2
      (walk_at "O")
    repeat' (first | (walk_at "P") | (walk_at "F"; (fail_if_success (with_reducible show wpAny _ _ (execs (PySem.Stmt.Expr _ ⟨232, _, _, _⟩ :: _) _) _ _ _)); first | (((with_reducible show wpAny _ _ (subscriptTail _ (PySem.Expr.Slice (some _) none none _) _ _) _ _ _); (try dsimp only); (with_reducible rename Fr _ _ _ _ => F'); (with_reducible rename News _ _ _ _ => N'); (refine slice_strN_sn (hsz := ?hsz) (s := ⟨_, _, _, _, _⟩) F' N' ?_); (case hsz => (rw [Uc.mkS_len, List.length_append, sizeLine_eq]; (walk_at "O"))); intro h9 tL9 k9 F9' N9'; rw [Uc.slice_name _ _ (by assumption)])) | (walk_at "T")))
    rename News _ _ _ _ => N9
    have hovl : ovs.length ≤ 100 := by rw [StrsAre.length hO, List.length_map, List.length_append]; show os.length + 1 ≤ 100; (walk_at "O")
    have hcvl : cvs.length ≤ 100 := by rw [intsAre_len hC, List.length_map]; (walk_at "O")
    obtain ⟨Wr, hWr, N9⟩ := name4 N9
    have wO : ∀ p ∈ Wr, p.1 ≠ Ol := fun p hp => by
      have hp' : p ∈ Wr ++ (lexLed w q LN tl ps7 pn7 ss sn ++ ((I, o) :: [(Ol, listOf ovs.toArray oc), (Cl, listOf cvs.toArray cc), (209, tabObj tps), (Nl, lst zs), (Ml, lst ys), (L + 5, o5), (L + 4, o4), (L + 3, o3)])) := List.mem_append_left _ hp
      have hb' : (Ol, listOf ovs.toArray oc) ∈ Wr ++ (lexLed w q LN tl ps7 pn7 ss sn ++ ((I, o) :: [(Ol, listOf ovs.toArray oc), (Cl, listOf cvs.toArray cc), (209, tabObj tps), (Nl, lst zs), (Ml, lst ys), (L + 5, o5), (L + 4, o4), (L + 3, o3)])) := List.mem_append_right _ (List.mem_append_right _ (.tail _ (.head _)))
      rw [hWr] at hp
      simp only [List.mem_cons, List.not_mem_nil, or_false] at hp
      rcases hp with rfl | rfl | rfl | rfl
      · exact neD N9 hp' hb' (fun e => by have z := congrArg Obj.cls e; cases z)
      · exact neD N9 hp' hb' (fun e => by have z := congrArg Obj.cls e; injection z with z; exact absurd z (by decide))
      · exact neD N9 hp' hb' (fun e => by have z := congrArg Obj.cls e; injection z with z; exact absurd z (by decide))
      · exact neD N9 hp' hb' (fun e => by have z := congrArg Obj.cls e; injection z with z; exact absurd z (by decide))
    have xO := lex_ne_list (w := w) (ln := LN) (tl := tl) (ps := ps7) (ss := ss) (pn := pn7) (sn := sn) ok2 (ok2.n2 (Ol, _) (.head _)) (ok2.n3 (Ol, _) (.head _)) N9 (fun p hp => List.mem_append_right _ (List.mem_append_left _ hp)) (List.mem_append_right _ (List.mem_append_right _ (.tail _ (.head _))))
    have iO : Ol ≠ I := hne (Ol, _) (List.mem_append_right _ (.head _))
    have wC : ∀ p ∈ Wr, p.1 ≠ Cl := fun p hp => by
      have hp' : p ∈ Wr ++ (lexLed w q LN tl ps7 pn7 ss sn ++ ((I, o) :: [(Ol, listOf ovs.toArray oc), (Cl, listOf cvs.toArray cc), (209, tabObj tps), (Nl, lst zs), (Ml, lst ys), (L + 5, o5), (L + 4, o4), (L + 3, o3)])) := List.mem_append_left _ hp
      have hb' : (Cl, listOf cvs.toArray cc) ∈ Wr ++ (lexLed w q LN tl ps7 pn7 ss sn ++ ((I, o) :: [(Ol, listOf ovs.toArray oc), (Cl, listOf cvs.toArray cc), (209, tabObj tps), (Nl, lst zs), (Ml, lst ys), (L + 5, o5), (L + 4, o4), (L + 3, o3)])) := List.mem_append_right _ (List.mem_append_right _ (.tail _ (.tail _ (.head _))))
      rw [hWr] at hp
      simp only [List.mem_cons, List.not_mem_nil, or_false] at hp
      rcases hp with rfl | rfl | rfl | rfl
      · exact neD N9 hp' hb' (fun e => by have z := congrArg Obj.cls e; cases z)
      · exact neD N9 hp' hb' (fun e => by have z := congrArg Obj.cls e; injection z with z; exact absurd z (by decide))
      · exact neD N9 hp' hb' (fun e => by have z := congrArg Obj.cls e; injection z with z; exact absurd z (by decide))
      · exact neD N9 hp' hb' (fun e => by have z := congrArg Obj.cls e; injection z with z; exact absurd z (by decide))
    have xC := lex_ne_list (w := w) (ln := LN) (tl := tl) (ps := ps7) (ss := ss) (pn := pn7) (sn := sn) ok2 (ok2.n2 (Cl, _) (.tail _ (.head _))) (ok2.n3 (Cl, _) (.tail _ (.head _))) N9 (fun p hp => List.mem_append_right _ (List.mem_append_left _ hp)) (List.mem_append_right _ (List.mem_append_right _ (.tail _ (.tail _ (.head _)))))
    have iC : Cl ≠ I := hne (Cl, _) (List.mem_append_right _ (.tail _ (.head _)))
    have NO := News.sub (b := (Ol, listOf ovs.toArray oc) :: (Wr ++ (lexLed w q LN tl ps7 pn7 ss sn ++ ((I, o) :: (Cl, listOf cvs.toArray cc) :: [(209, tabObj tps), (Nl, lst zs), (Ml, lst ys), (L + 5, o5), (L + 4, o4), (L + 3, o3)])))) N9 permO
    have hneO : ∀ r ∈ Wr ++ (lexLed w q LN tl ps7 pn7 ss sn ++ ((I, o) :: (Cl, listOf cvs.toArray cc) :: [(209, tabObj tps), (Nl, lst zs), (Ml, lst ys), (L + 5, o5), (L + 4, o4), (L + 3, o3)])), r.1 ≠ Ol := fun r hr => by
      rcases List.mem_append.mp hr with hr | hr
      · exact wO r hr
      rcases List.mem_append.mp hr with hr | hr
      · exact xO r hr
      rcases List.mem_cons.mp hr with rfl | hr
      · exact iO.symm
      rcases List.mem_cons.mp hr with rfl | hr
      · exact Ne.symm hOC
      · exact Nat.ne_of_lt (hlt r hr).1
    clear N9
    repeat' (first | (walk_at "P") | (walk_at "F"; (fail_if_success (with_reducible show wpAny _ _ (execs (PySem.Stmt.Expr _ ⟨233, _, _, _⟩ :: _) _) _ _ _)); first | ((with_reducible show wpAny _ _ (callWith _ (Value.builtin _) _ _ _) _ _ _); dsimp only; first | ((with_reducible show wpAny _ _ (callWith _ (Value.builtin "list.append") _ _ _) _ _ _); refine callWith_method1 ?_) | ((with_reducible show wpAny _ _ (callWith _ (Value.builtin "str.join") _ _ _) _ _ _); refine callWith_method1 ?_)) | (walk_at "T")))
    rename News _ _ _ _ => N5
    rename Fr _ _ _ _ => F5
    obtain ⟨on, hon, N5⟩ := name1 N5
    have NI := News.sub (b := Wr ++ (on :: (lexLed w q LN tl ps7 pn7 ss sn ++ ((I, o) :: (Cl, listOf cvs.toArray cc) :: [(209, tabObj tps), (Nl, lst zs), (Ml, lst ys), (L + 5, o5), (L + 4, o4), (L + 3, o3)])))) N5 permI
    clear N5
    rw [hWr] at NI
    replace NI := cons4 NI
    repeat' (first | (walk_at "P") | (walk_at "F"; first | ((with_reducible show wpAny _ _ (callWith _ (Value.builtin _) _ _ _) _ _ _); dsimp only; first | ((with_reducible show wpAny _ _ (callWith _ (Value.builtin "list.append") _ _ _) _ _ _); refine callWith_method1 ?_) | ((with_reducible show wpAny _ _ (callWith _ (Value.builtin "str.join") _ _ _) _ _ _); refine callWith_method1 ?_)) | (walk_at "T")))
    (refine indent w p loose mean mg mb _ (mkS (lead ++ hx.2)) a d P T' vs _ tn tt2 tb k0 k1 k2 k3 k4 _ sz (by rw [mkS_len, List.length_append]; (walk_at "O")) hvs (by (walk_at "O")) (by (walk_at "O")) (by (walk_at "O")) _ _ _ _ _ _ _ _ _ _ _ _ _ _ _ _ _ (by assumption) (by assumption) (by assumption) (by assumption) (by assumption) (by first | assumption | rfl) ?pre (by first | assumption | exact Uc.room3 (by assumption) (by decide) | exact Uc.room2 (by assumption) (by decide) | ktr_room) (by first | assumption | exact Uc.room3 (by assumption) (by decide) | exact Uc.room2 (by assumption) (by decide) | ktr_units) ?_); (case pre => first | exact trivial | assumption)
    refine kEn1v ?_
    intro t h' tk' F N
    rw [e2]
    have NC0 := uncons4 N
    rw [← hWr] at NC0
    have NC := News.sub (b := (Cl, listOf cvs.toArray cc) :: (Wr ++ (on :: (lexLed w q LN tl ps7 pn7 ss sn ++ ((I, o) :: [(209, tabObj tps), (Nl, lst zs), (Ml, lst ys), (L + 5, o5), (L + 4, o4), (L + 3, o3)])))))  NC0 permC
    have hneC : ∀ r ∈ Wr ++ (on :: (lexLed w q LN tl ps7 pn7 ss sn ++ ((I, o) :: [(209, tabObj tps), (Nl, lst zs), (Ml, lst ys), (L + 5, o5), (L + 4, o4), (L + 3, o3)]))), r.1 ≠ Cl := fun r hr => by
      rcases List.mem_append.mp hr with hr | hr
      · exact wC r hr
      rcases List.mem_cons.mp hr with rfl | hr
      · rw [hon]; exact hOC
      rcases List.mem_append.mp hr with hr | hr
      · exact xC r hr
      rcases List.mem_cons.mp hr with rfl | hr
      · exact iC.symm
      · exact Nat.ne_of_lt (hlt r hr).2
    clear NC0
    repeat' (first | (walk_at "P") | (walk_at "F"; walk_at "T"))
    rename News _ _ _ (_ :: (Wr ++ _)) => N6
    rename Fr _ _ _ _ => F6
    rw [hon, List.push_toArray, List.push_toArray] at N6
    walk_at "H"; refine Turn.next ((ps7, pn7), (ovs ++ [Value.str (mkS hx.2) tL9], oc + 1), (cvs ++ [Value.int (hx.1 : Int) t], cc + 1), hx.2, tL9) F6 N6 ?hs ?ha ⟨rfl, rfl, rfl, rfl, rfl, trivial⟩ ⟨os ++ [la], cs ++ [hx.1], out, hR.next hp hm hxo, by rw [List.length_append, hol]; rfl, ?hO, intsAre_snoc hC rfl, hWo⟩
    case hs => exact fun p hp => permE (i := (I, o)) (C := (Cl, listOf (cvs ++ [Value.int (hx.1 : Int) t]).toArray (cc + 1))) (l := lexLed w q LN tl ps7 pn7 ss sn) (k := Wr) (r := [(209, tabObj tps), (Nl, lst zs), (Ml, lst ys), (L + 5, o5), (L + 4, o4), (L + 3, o3)]) p hp
    case ha =>
      refine fun p hp => .inl (lex_off_all2 (R := [(Ol, listOf ovs.toArray oc), (Cl, listOf cvs.toArray cc), (209, tabObj tps), (Nl, lst zs), (Ml, lst ys), (L + 5, o5), (L + 4, o4), (L + 3, o3)]) (P := fun a => a ∈ (lexLed w q LN tl ps pn ss sn ++ [(Ol, listOf ovs.toArray oc), (Cl, listOf cvs.toArray cc), (209, tabObj tps), (Nl, lst zs), (Ml, lst ys), (L + 5, o5), (L + 4, o4), (L + 3, o3)]).map (·.1)) (fun p hp => List.mem_map_of_mem hp) (fun p hp => ?_) p hp)
      rcases List.mem_cons.mp hp with rfl | hp
      · exact ⟨_, .head _, rfl⟩
      rcases List.mem_cons.mp hp with rfl | hp
      · exact ⟨_, .tail _ (.head _), rfl⟩
      · exact ⟨p, .tail _ (.tail _ hp), rfl⟩
    case hO =>
      show StrsAre _ ((os ++ [la] ++ [hx.2]).map mkS)
      rw [List.map_append (l₁ := os ++ [la])]
      exact StrsAre.append' hO (.cons _ _ .nil)
  case done =>
    clear F9 N9
    refine fpLLooRLooRLooRooR fun ps pn ovs oc cvs cc la tw => ?_
    intro u h tk hR43z F N
    (refine Uc.ex3 hR43z fun os cs ws => Uc.an5 fun hR hol hO hC hW => ?_; clear hR43z)
    dsimp only at hR hO hC hW F N ⊢
    have hlw := hR.lenW
    rw [List.length_append, List.length_singleton, hnms] at hlw
    obtain rfl : ws = [] := List.length_eq_zero_iff.mp (by (walk_at "O"))
    cases hW
    repeat' (first | (walk_at "P") | (walk_at "F"; walk_at "T"))
    exact ret _ _ pn ovs oc cvs cc _ (os ++ [la]) cs hR (by rw [List.length_append, List.length_singleton, hol]) hO hC ⟨rfl, rfl, rfl, trivial⟩ (by assumption) N
end
end Uc
end
section
namespace Uc
open PyProof.Rows.LCg
section
variable (w : World) (p : Program) (loose : List Str) (mean : ExcName → Option Value) (mg mb : Str → Option Value)
theorem far_c (news : List (Addr × Obj)) (x y : List Nat) (tx ty : Tok) (hx : x.length ≤ 3) (hy : y.length ≤ 3) :
    Con w p loose mean mg mb 236 16 60 [.str ⟨x.toArray⟩ tx, .str ⟨y.toArray⟩ ty] news (fun _ => True) (fun v n' => n' = news ∧ ∃ t, v = .int (farOf x y) t) := by
  dsimp only [Con, Pm]
  k_fill
  intros
  rename_i hret
  refine wpAny_call ?_
  k_dflt (refine' code_defC ?k1 ?k2 ?k3 ?k4 ?k5 ?kA ?kF ?kK ?k6 ?k7 ?k8 ?k9 ?kB ?kD ?_ ?c2 ?c3 ?c4; (case kA => exact rfl); (case kF => exact rfl); (case kK => assumption); (case k1 => k_asm); (case k2 => k_asm); (case k3 => k_asm); (case k4 => k_asm); (case k5 => k_asm); (case k6 => k_is); (case k7 => k_is); (case k8 => ktr_room); (case k9 => exact BindsTo.of_eq rfl); (case kB => exact rfl); (case kD => decide +kernel); (case c2 => exact rfl); (case c3 => exact rfl); (case c4 => exact rfl); k_whole; intro g' L' h' tk' cells' FG' F' N' Y' B' X' T' l1; (try k_lt l1); k_cells Y'; (try simp only [List.cons_append, List.nil_append] at N'); (try dsimp only); (try k_lift B'); (try k_fold))
  have hy7 : (⟨y.toArray⟩ : Str).length = y.length := by show y.toArray.size = _; simp
  rename (_ = Data.cell _) => d1
  obtain ⟨oc, rfl, d2⟩ := nameO d1 (show _ = Data.cell (some (.str ⟨y.toArray⟩ ty)) from rfl)
  clear d1
  repeat' (first | (walk_at "P") | (walk_at "F"; (fail_if_success (with_reducible show wpAny _ _ (execs (PySem.Stmt.For _ _ _ _ ⟨187, _, _, _⟩ :: _) _) _ _ _)); walk_at "T"))
  (try dsimp only)
  rename IntsAre _ _ => hI0
  have hI1 := row0_of (by rw [hy7]) hI0
  rename Fr _ _ _ _ => F9
  rename News _ _ _ _ => N9
  walk_at "H"
  refine execs_join (σ := Addr × List Value × Nat × List Int) F9 (fun c => (c.1, listOf c.2.1.toArray c.2.2.1) :: (L' + 1, oc) :: news) (fun c => [(Str.ofString "below", .ref c.1)])
    (fun c => IntsAre c.2.1 c.2.2.2 ∧ c.2.2.2 = farFold y x.reverse (row0F y) ∧ c.2.2.2.length = y.length + 1) ?j1 ?j2
  case j2 =>
    refine fpLooooR fun D vs cnt ns => ?_
    intro u h tk hR26z F N
    have h1 := hR26z.1
    have h2 := hR26z.2.1
    have h3 := hR26z.2.2
    clear hR26z
    dsimp only at h1 h2 h3 F N ⊢
    have hvl := intsAre_len h1
    repeat' (first | (walk_at "P") | (walk_at "F"; walk_at "T"))
    exact hret _ _ _ _ ⟨rfl, _, by rw [show farOf x y = ns.getD (Int.toNat 0) 0 from by rw [h2]; unfold farOf; cases farFold y x.reverse (row0F y) <;> rfl]⟩ (by assumption) (News.sub (by assumption) (by first | (intro _ h; first | exact h | exact .tail _ h | exact .tail _ (.tail _ h) | exact .tail _ (.tail _ (.tail _ h))) | ((with_reducible repeat (first | exact Uc.ledgR | refine Uc.ledgK ?_ | refine Uc.ledgD ?_)); done) | (intro _ h; simp only [List.mem_cons, List.mem_append, List.mem_singleton, List.not_mem_nil, or_false] at h ⊢; grind)))
  case j1 =>
    walk_at "H"
    refine For_invV g' (by rfl) (by rfl) ?_
    repeat' (first | (walk_at "P") | (walk_at "F"; walk_at "T"))
    rw [rev_slice]
    rename News _ _ _ _ => N8
    rename Fr _ _ _ _ => F8
    refine iter_str (σ := (Addr × List Value × Nat × List Int) × Tok) (fun c => (c.1.1, listOf c.1.2.1.toArray c.1.2.2.1) :: (L' + 1, oc) :: news) (fun c => [(Str.ofString "below", .ref c.1.1)])
      (fun i c => IntsAre c.1.2.1 c.1.2.2.2 ∧ farFold y x.reverse (row0F y) = farFold y (x.reverse.drop i) c.1.2.2.2 ∧ c.1.2.2.2.length = y.length + 1) ((_, ys, _, row0F y), 0) rfl F8 N8 ⟨rfl, trivial⟩ ?hp ?turn ?done
    case hp => exact ⟨hI1, rfl, row0F_length y⟩
    case done =>
      refine fpLLooooRoR fun D vs cnt ns t1 => ?_
      intro u h tk hR27z F N
      have h1 := hR27z.1
      have h2 := hR27z.2.1
      have h3 := hR27z.2.2
      clear hR27z
      dsimp only at h1 h2 h3 F N ⊢
      walk_at "H"; refine GotF.mk (D, vs, cnt, ns) F N (fun _ h => h) ⟨rfl, trivial⟩ ⟨h1, ?_, h3⟩
      (try dsimp only)
      rw [h2, List.drop_of_length_le (by show x.reverse.length ≤ (x.reverse.toArray).size; simp)]
      rfl
    case turn =>
      intro i c t
      refine fpLLooooRoR fun D vs cnt ns t1 => ?_
      intro u h tk I o hc hR28z hne hit F N
      have h1 := hR28z.1
      have h2 := hR28z.2.1
      have h3 := hR28z.2.2
      clear hR28z
      dsimp only at h1 h2 h3 hne F N ⊢
      have hvl := intsAre_len h1
      repeat' (first | (walk_at "P") | (walk_at "F"; walk_at "T"))
      rename (∀ p, p ∈ (D, listOf vs.toArray cnt) :: (L' + 1, oc) :: news ++ [(I, o)] → p.1 < _) => hlP
      obtain ⟨P, rfl, hneP⟩ := nameLt hlP
      rename News _ _ _ _ => N5
      rename Fr _ _ _ _ => F5
      refine iter_range (n := y.length) (σ := (List Value × Nat × List Int) × Tok) (fun c => (P, listOf c.1.1.toArray c.1.2.1) :: ((D, listOf vs.toArray cnt) :: (L' + 1, oc) :: news ++ [(I, o)]))
        (fun q => [(Str.ofString "prices", .ref P), (Str.ofString "letter", .str ⟨#[c]⟩ q.2), (Str.ofString "below", .ref D)])
        (fun j q => IntsAre q.1.1 q.1.2.2 ∧ q.1.2.2 = farRow c (y.drop (y.length - j)) (ns.drop (y.length - j))) (([_], 0, [ns.getD (-1 + (ns.length : Int)).toNat 0 + 2]), _) rfl (by assumption) (by rw [hy7]; exact (rng_down hy).1) (by rw [hy7]; exact (rng_down hy).2) F5 N5 ⟨rfl, rfl, rfl, trivial⟩ ?hp2 ?turn2 ?done2
      case hp2 =>
        refine ⟨.cons _ _ .nil, ?_⟩
        (try dsimp only)
        rw [Nat.sub_zero, List.drop_length]
        show [ns.getD (-1 + (ns.length : Int)).toNat 0 + 2] = [(ns.drop y.length).headD 0 + 2]
        rw [h3, show (-1 + ((y.length + 1 : Nat) : Int)).toNat = y.length by (walk_at "O"), List.drop_eq_getElem_cons (by (walk_at "O") : y.length < ns.length)]
        simp [List.getD, h3]
      case done2 =>
        refine fpLLoooRoR fun pv pc pn t2 => ?_
        intro u h tk hR29z F N
        obtain ⟨g1, g2⟩ := hR29z
        dsimp only at g1 g2 F N ⊢
        repeat' (first | (walk_at "P") | (walk_at "F"; walk_at "T"))
        walk_at "H"; refine Turn.next ((P, pv, pc, pn), 0) (by assumption) (by assumption) (by
          intro p hp
          rcases List.mem_cons.mp hp with rfl | hp
          · exact .head _
          · exact .tail _ (.tail _ hp)) (by
          intro p hp
          rcases List.mem_cons.mp hp with rfl | hp
          · exact .inr rfl
          · exact .inl (.tail _ (List.mem_map_of_mem hp))) ⟨rfl, trivial⟩ ⟨g1, ?_, ?_⟩
        · (try dsimp only)
          rw [h2, g2, Nat.sub_self, List.drop_zero, List.drop_zero]
          have hcl : x.reverse[i]? = some c := by simpa using hc
          obtain ⟨hi, hcx⟩ := List.getElem?_eq_some_iff.mp hcl
          rw [List.drop_eq_getElem_cons hi, hcx]
          rfl
        · (try dsimp only)
          rw [g2, farRow_length, Nat.sub_self, List.drop_zero]
      case turn2 =>
        intro j tj
        refine fpLLoooRoR fun pv pc pn t2 => ?_
        intro u h tk I2 o2 hj hR30z hne2 hit2 F N
        obtain ⟨g1, g2⟩ := hR30z
        dsimp only at g1 g2 hne2 F N ⊢
        have hK : ((⟨y.toArray⟩ : Str).length : Int) - 1 + (j : Int) * (-1) = ((y.length - 1 - j : Nat) : Int) := by rw [hy7]; (walk_at "O")
        rw [hK] at F
        have hkl : y.length - 1 - j < y.length := by (walk_at "O")
        have hit3 := item_at y _ hkl
        have hst := far_step (c := c) (ns := ns) hj h3
        rw [← g2] at hst
        obtain ⟨K, hKd⟩ : ∃ K, K = y.length - 1 - j := ⟨_, rfl⟩
        rw [← hKd] at F hkl hit3 hst
        have hpl : pn.length = j + 1 := by rw [g2, farRow_length, List.length_drop]; (walk_at "O")
        have hpvl := intsAre_len g1
        have hcl1 : (⟨#[c]⟩ : Str).length = 1 := rfl
        have hil : (Txt.item ⟨y.toArray⟩ (K : Int)).length = 1 := by rw [hit3]; rfl
        have hall : ∀ p ∈ ((D, listOf vs.toArray cnt) :: (L' + 1, oc) :: news ++ [(I, o)]) ++ [(I2, o2)], p.1 ≠ P := fun p hp => by
          rcases List.mem_append.mp hp with hp | hp
          · exact hneP p hp
          · rw [List.mem_singleton.mp hp]; exact (hne2 _ (.head _)).symm
        walk_at "H"; refine execs_join F (σ := Tok × Tok × Tok) (fun _ => (P, listOf pv.toArray pc) :: (((D, listOf vs.toArray cnt) :: (L' + 1, oc) :: news ++ [(I, o)]) ++ [(I2, o2)]))
          (fun q => [(Str.ofString "turned", .int (turned c (y.getD K 0)) q.1), (Str.ofString "k", .int (K : Int) q.2.1), (Str.ofString "prices", .ref P), (Str.ofString "letter", .str ⟨#[c]⟩ q.2.2), (Str.ofString "below", .ref D)]) (fun _ => True) ?g1 ?g2
        case g1 =>
          repeat' (first | (walk_at "P") | (walk_at "F"; first | ((with_reducible show wpAny _ _ (call (Value.builtin "str.lower") _) _ _ _); refine SCL.lower (by omega) ?_; intro hLow) | ((with_reducible show wpAny _ _ (subscriptTail _ (PySem.Expr.Slice none (some _) none _) _ _) _ _ _); (with_reducible rename Fr _ _ _ _ => F'); (with_reducible rename News _ _ _ _ => N'); (refine slice_strN_nn (hsz := ?hsz) (s := ⟨_, _, _, _, _⟩) F' N' ?_); (case hsz => first | size_fits | (unfold sizeLine; omega)); intro _ _ _ _ _; rw [Uc.slN]) | ((with_reducible show wpAny _ _ (eval (PySem.Expr.ListComp _ _ _ _) _) _ _ _); k_dflt (refine Uc.comp_range (by rfl) (by decide) (by rfl) (by decide) (by rfl) ?_)) | ((with_reducible show wpAny _ _ (call (Value.builtin "min") _) _ _ _); (try dsimp only); refine Uc.min3_K rfl (by assumption) (by assumption) ?_; intro h' tk' u' F' N') | (walk_at "T")))
          · rename (_ == Txt.item _ _) = true => hb1
            rw [hit3, beq_iff_eq] at hb1
            walk_at "H"; rw [show turned c (y.getD K 0) = 0 from turned_0 hb1]; exact GotF.mk (_, _, _) (by assumption) (by assumption) (by first | (intro _ h; first | exact h | exact .tail _ h | exact .tail _ (.tail _ h) | exact .tail _ (.tail _ (.tail _ h))) | ((with_reducible repeat (first | exact Uc.ledgR | refine Uc.ledgK ?_ | refine Uc.ledgD ?_)); done) | (intro _ h; simp only [List.mem_cons, List.mem_append, List.mem_singleton, List.not_mem_nil, or_false] at h ⊢; grind)) ⟨rfl, rfl, rfl, rfl, rfl, trivial⟩ trivial
          · rename (_ == Txt.item _ _) = false => hb1
            rename (Txt.lower _ == Txt.lower _) = true => hb2
            rw [hit3, beq_eq_false_iff_ne] at hb1
            rw [hit3, beq_iff_eq] at hb2
            walk_at "H"; rw [show turned c (y.getD K 0) = 1 from turned_1 hb1 hb2]; exact GotF.mk (_, _, _) (by assumption) (by assumption) (by first | (intro _ h; first | exact h | exact .tail _ h | exact .tail _ (.tail _ h) | exact .tail _ (.tail _ (.tail _ h))) | ((with_reducible repeat (first | exact Uc.ledgR | refine Uc.ledgK ?_ | refine Uc.ledgD ?_)); done) | (intro _ h; simp only [List.mem_cons, List.mem_append, List.mem_singleton, List.not_mem_nil, or_false] at h ⊢; grind)) ⟨rfl, rfl, rfl, rfl, rfl, trivial⟩ trivial
          · rename (_ == Txt.item _ _) = false => hb1
            rename (Txt.lower _ == Txt.lower _) = false => hb2
            rw [hit3, beq_eq_false_iff_ne] at hb1
            rw [hit3, beq_eq_false_iff_ne] at hb2
            walk_at "H"; rw [show turned c (y.getD K 0) = 2 from turned_2 hb1 hb2]; exact GotF.mk (_, _, _) (by assumption) (by assumption) (by first | (intro _ h; first | exact h | exact .tail _ h | exact .tail _ (.tail _ h) | exact .tail _ (.tail _ (.tail _ h))) | ((with_reducible repeat (first | exact Uc.ledgR | refine Uc.ledgK ?_ | refine Uc.ledgD ?_)); done) | (intro _ h; simp only [List.mem_cons, List.mem_append, List.mem_singleton, List.not_mem_nil, or_false] at h ⊢; grind)) ⟨rfl, rfl, rfl, rfl, rfl, trivial⟩ trivial
        clear F N
        refine fpLoooR fun t4 t5 t6 => ?_
        intro u h tk _ F N
        k_sweep
        dsimp only at F N ⊢
        repeat' (first | (walk_at "P") | (walk_at "F"; first | ((with_reducible show wpAny _ _ (call (Value.builtin "str.lower") _) _ _ _); refine SCL.lower (by omega) ?_; intro hLow) | ((with_reducible show wpAny _ _ (subscriptTail _ (PySem.Expr.Slice none (some _) none _) _ _) _ _ _); (with_reducible rename Fr _ _ _ _ => F'); (with_reducible rename News _ _ _ _ => N'); (refine slice_strN_nn (hsz := ?hsz) (s := ⟨_, _, _, _, _⟩) F' N' ?_); (case hsz => first | size_fits | (unfold sizeLine; omega)); intro _ _ _ _ _; rw [Uc.slN]) | ((with_reducible show wpAny _ _ (eval (PySem.Expr.ListComp _ _ _ _) _) _ _ _); k_dflt (refine Uc.comp_range (by rfl) (by decide) (by rfl) (by decide) (by rfl) ?_)) | ((with_reducible show wpAny _ _ (call (Value.builtin "min") _) _ _ _); (try dsimp only); refine Uc.min3_K rfl (by assumption) (by assumption) ?_; intro h' tk' u' F' N') | (walk_at "T")))
        refine insert0 (by assumption) (by assumption) (Upd.head hall) (by (walk_at "O")) ?_
        intro h' F' N'
        repeat' (first | (walk_at "P") | (walk_at "F"; walk_at "T"))
        walk_at "H"; refine Turn.next (([_] ++ pv, _, _), _) (by assumption) (by assumption) (fun _ h => h) (fun p hp => .inl (by rcases List.mem_cons.mp hp with rfl | hp <;> first | exact .head _ | exact .tail _ (List.mem_map_of_mem hp))) ⟨rfl, rfl, rfl, trivial⟩ ⟨.cons _ _ g1, ?_⟩
        (try dsimp only)
        rw [hst, show pn.headD 0 = pn.getD (Int.toNat 0) 0 from by cases pn <;> rfl]
        rfl
end
end Uc
end
section
namespace Uc
open PyProof.Rows.LCg
theorem off1_mem {D : Addr} : ∀ {l : List (Addr × Obj)}, Off1 D l → ∀ p ∈ l, p.1 ≠ D
  | [], _, p, h => nomatch h
  | q :: l, h, p, hp => by
    rcases List.mem_cons.mp hp with rfl | hp
    · exact fun e => h.1 e
    · exact off1_mem h.2 p hp
section
variable (w : World) (p : Program) (loose : List Str) (mean : ExcName → Option Value) (mg mb : Str → Option Value)
theorem dearest_c (news : List (Addr × Obj)) (Nm : Addr) (nvs : List Value) (nc : Nat) (nm : List (List Nat)) (hs : StrsAre nvs (nm.map mkS)) (hn : nm.length = 5) (hl : ∀ x ∈ nm, x.length ≤ 3) :
    Con w p loose mean mg mb 241 20 90 [.ref Nm] ((Nm, listOf nvs.toArray nc) :: news) (fun _ => True)
      (fun v n' => ∃ Pr pc rows, n' = (Nm, listOf nvs.toArray nc) :: (Pr, listOf (refsOf rows).toArray pc) :: (matLed rows ++ news) ∧ MatOk 5 rows (dearest nm) ∧ v = .ref Pr) := by
  dsimp only [Con, Pm]
  k_fill
  intros
  rename_i hret
  refine wpAny_call ?_
  k_dflt cell_enter
  have hvl : nvs.length = 5 := by rw [StrsAre.length hs, List.length_map, hn]
  repeat' (first | (walk_at "P") | (walk_at "F"; first | ((with_reducible show wpAny _ _ (exec (PySem.Stmt.Assign _ (PySem.Expr.ListComp _ _ _ _) _) _) _ _ _); (k_dflt (refine' Uc.comp_listA ?sw ?a ?b ?c ?d ?e ?hy ?hp ?_; (case sw => with_unfolding_all rfl); (case a => rfl); (case b => decide); (case c => rfl); (case d => decide); (case e => rfl); (case hy => rfl); (case hp => rfl)))) | (walk_at "T")))
  rename News _ _ _ _ => N7
  rename Fr _ _ _ _ => F7
  refine Uc.ei7 _ _ Nm nvs nc ((Nm, listOf nvs.toArray nc) :: news) (fun i ys nw => ∃ rows : List Row, nw = matLed rows ++ (Nm, listOf nvs.toArray nc) :: news ∧ ys = refsOf rows ∧ rows.length = i ∧ (∀ r ∈ rows, IntsAre r.2.1 (List.replicate 5 0)) ∧ (rows.map (·.1)).Nodup ∧ (∀ p ∈ (Nm, listOf nvs.toArray nc) :: news, ∀ r ∈ rows, p.1 ≠ r.1)) ⟨rfl, rfl, F7, N7, .head _, by (walk_at "O"), ⟨([] : List Row), rfl, rfl, rfl, (by intro r hr; cases hr), List.nodup_nil, (by intro p hp r hr; cases hr)⟩, ?T, ?fin⟩
  case T =>
    intro g i v ys nw I oI C oC D m₂ h tk E' hi hv w26q hS hoC hm2 F N off w27q; (refine Uc.ex1 w26q fun rows => Uc.an6 fun e1q e2q h1 h2 h3 h4 => ?_; clear w26q; subst e1q; subst e2q); (refine Uc.ah3 w27q fun d1 d2 d3 => ?_; clear w27q)
    refine wpAny_tests_nil ?_
    simp only [if_true]
    repeat' (first | (walk_at "P") | (walk_at "F"; walk_at "T"))
    rename (_ < _ ∧ I < _ ∧ C < _ ∧ D < _ ∧ AllLt _ (matLed rows ++ _)) => lz
    (refine Uc.ex1 (name5 lz) fun D2 => Uc.an5 fun e1q lI lC lD lA => ?_; subst e1q)
    have lR := rows_lt lA
    refine TurnC.mk (matLed (rows ++ [(D2, (List.replicate (Int.toNat 5) [Value.int 0 tk]).flatten, 0)]) ++ (Nm, listOf nvs.toArray nc) :: news) (by assumption) (by assumption) ?sub ?off
      ⟨List.mem_append_right _ (.head _), _, rfl, by unfold refsOf; rw [List.map_append]; rfl, by rw [List.length_append, h1]; rfl, ?rowsI, nodup_snoc h3 lR, ?offr⟩
    case sub =>
      intro p hp
      rcases List.mem_cons.mp hp with rfl | hp
      · exact .tail _ (.tail _ (.head _))
      rcases List.mem_cons.mp hp with rfl | hp
      · exact .tail _ (.tail _ (.tail _ (.head _)))
      rcases List.mem_cons.mp hp with rfl | hp
      · exact .tail _ (.tail _ (.tail _ (.tail _ (.head _))))
      rcases List.mem_append.mp hp with hp | hp
      · rw [matLed_snoc] at hp
        rcases List.mem_append.mp hp with hp | hp
        · exact .tail _ (.tail _ (.tail _ (.tail _ (.tail _ (List.mem_append_left _ hp)))))
        · rw [List.mem_singleton.mp hp]; exact .head _
      · exact .tail _ (.tail _ (.tail _ (.tail _ (.tail _ (List.mem_append_right _ hp)))))
    case off =>
      refine Off3.of fun p hp => ?_
      rcases List.mem_append.mp hp with hp | hp
      · rw [matLed_snoc] at hp
        rcases List.mem_append.mp hp with hp | hp
        · exact off.mem p (List.mem_append_left _ hp)
        · rw [List.mem_singleton.mp hp]; exact ⟨Nat.ne_of_gt lI, Nat.ne_of_gt lC, Nat.ne_of_gt lD⟩
      · exact off.mem p (List.mem_append_right _ hp)
    case rowsI =>
      intro r hr
      rcases List.mem_append.mp hr with hr | hr
      · exact h2 r hr
      · rw [List.mem_singleton.mp hr]
        exact .cons _ _ (.cons _ _ (.cons _ _ (.cons _ _ (.cons _ _ .nil))))
    case offr =>
      intro p hp r hr
      rcases List.mem_append.mp hr with hr | hr
      · exact h4 p hp r hr
      · rw [List.mem_singleton.mp hr]
        exact Nat.ne_of_lt (allLt_all lA p (List.mem_append_right _ hp))
  case fin =>
    intro D h tk ys nw w28q F N o1; (refine Uc.ex1 w28q fun rows => Uc.an6 fun e1q e2q h1 h2 h3 h4 => ?_; clear w28q; subst e1q; subst e2q)
    have hM := matOk_zero (by (walk_at "O")) h2 h3
    have oD : ∀ r ∈ rows, D ≠ r.1 := fun r hr => (off1_mem o1 _ (List.mem_append_left _ (led_mem hr))).symm
    obtain ⟨rs, hrs⟩ : ∃ rs, rs = refsOf rows := ⟨_, rfl⟩
    rw [← hrs] at N
    have hoff : ∀ p ∈ (Nm, listOf nvs.toArray nc) :: (D, lst rs) :: news, ∀ r ∈ rows, p.1 ≠ r.1 := by
      intro p hp r hr
      rcases List.mem_cons.mp hp with rfl | hp
      · exact h4 _ (.head _) r hr
      rcases List.mem_cons.mp hp with rfl | hp
      · exact oD r hr
      · exact h4 _ (.tail _ hp) r hr
    have N9 := News.sub (b := (Nm, listOf nvs.toArray nc) :: (D, lst rs) :: (matLed rows ++ news)) N (by
      intro p hp
      rcases List.mem_cons.mp hp with rfl | hp
      · exact .tail _ (List.mem_append_right _ (.head _))
      rcases List.mem_cons.mp hp with rfl | hp
      · exact .head _
      rcases List.mem_append.mp hp with hp | hp
      · exact .tail _ (List.mem_append_left _ hp)
      · exact .tail _ (List.mem_append_right _ (.tail _ hp)))
    clear N
    have hR0 : RowsOk rs ((Nm, listOf nvs.toArray nc) :: (D, lst rs) :: news) rows (List.replicate 5 (List.replicate 5 0)) := ⟨hM, hrs.symm, hoff⟩
    have hrl : rs.length = 5 := by rw [hrs]; unfold refsOf; rw [List.length_map, h1]; (walk_at "O")
    clear hM oD hoff h1 h2 h3 h4 o1
    repeat' (first | (walk_at "P") | (walk_at "F"; walk_at "T"))
    rename News _ _ _ _ => N8
    rename Fr _ _ _ _ => F8
    refine iter_to 5 (σ := List Row × List (List Int)) (fun c => (Nm, listOf nvs.toArray nc) :: (D, lst rs) :: (matLed c.1 ++ news)) (fun c => [(Str.ofString "price", .ref D), (Str.ofString "names", .ref Nm)])
      (fun i c => RowsOk rs ((Nm, listOf nvs.toArray nc) :: (D, lst rs) :: news) c.1 c.2 ∧ c.2 = (List.range i).foldl (fillRow nm) (List.replicate 5 (List.replicate 5 0))) (rows, List.replicate 5 (List.replicate 5 0)) rfl (by assumption) rfl (by (walk_at "O")) F8 N8 ⟨rfl, rfl, trivial⟩ ⟨hR0, rfl⟩ ?turn1 ?done1
    case done1 =>
      clear N8 F8 hR0
      refine fpLooR fun rows M => ?_
      intro u h tk hR31z F N
      have hR := hR31z.1
      have hM := hR31z.2
      clear hR31z
      dsimp only at hR hM F N ⊢
      repeat' (first | (walk_at "P") | (walk_at "F"; walk_at "T"))
      rename News _ _ _ _ => N8
      rename Fr _ _ _ _ => F8
      refine iter_to 5 (σ := List Row × List (List Int)) (fun c => (Nm, listOf nvs.toArray nc) :: (D, lst rs) :: (matLed c.1 ++ news)) (fun c => [(Str.ofString "price", .ref D)])
        (fun k c => RowsOk rs ((Nm, listOf nvs.toArray nc) :: (D, lst rs) :: news) c.1 c.2 ∧ c.2 = (List.range k).foldl relax M) (rows, M) rfl (by assumption) rfl (by (walk_at "O")) F8 N8 ⟨rfl, trivial⟩ ⟨hR, rfl⟩ ?turn3 ?done3
      case done3 =>
        clear N8 F8 hR
        refine fpLooR fun rows3 M3 => ?_
        intro u h tk hR32z F N
        have hR3 := hR32z.1
        have hM3 := hR32z.2
        clear hR32z
        dsimp only at hR3 hM3 F N ⊢
        repeat' (first | (walk_at "P") | (walk_at "F"; walk_at "T"))
        refine hret _ _ _ _ ⟨D, rs.length, rows3, rfl, ?_, rfl⟩ (by assumption) ?_
        · have := hR3.ok
          rw [hM3, hM] at this
          exact this
        · rw [hR3.refs]; assumption
      case turn3 =>
        clear N8 F8 hR hM
        intro k tm
        refine fpLooR fun rows3 M3 => ?_
        intro u h tk I3 o3 hk hR33z hne3 hit3 F N
        have hR3 := hR33z.1
        have hM3 := hR33z.2
        clear hR33z
        dsimp only at hR3 hM3 hne3 F N ⊢
        have hrow3 := row_ne hne3
        obtain ⟨n3, hn3⟩ : ∃ n3, n3 = news ++ [(I3, o3)] := ⟨_, rfl⟩
        replace N := News.sub N perm1
        have hR3' := hR3.more (p := (I3, o3)) hrow3
        rw [← hn3] at N hR3'
        repeat' (first | (walk_at "P") | (walk_at "F"; walk_at "T"))
        rename News _ _ _ _ => N8
        rename Fr _ _ _ _ => F8
        refine iter_to 5 (σ := List Row × List (List Int)) (fun c => (Nm, listOf nvs.toArray nc) :: (D, lst rs) :: (matLed c.1 ++ n3)) (fun c => [(Str.ofString "price", .ref D), (Str.ofString "middle", .int (k : Int) tm)])
          (fun i c => RowsOk rs ((Nm, listOf nvs.toArray nc) :: (D, lst rs) :: n3) c.1 c.2 ∧ c.2 = (List.range i).foldl (relaxRow k) M3) (rows3, M3) rfl (by assumption) rfl (by (walk_at "O")) F8 N8 ⟨rfl, rfl, trivial⟩ ⟨hR3', rfl⟩ ?turnI ?doneI
        case doneI =>
          clear N8 F8 hR3 hR3'
          refine fpLooR fun rows2 M2 => ?_
          intro u h tk hR34z F N
          have hR2 := hR34z.1
          have hM2 := hR34z.2
          clear hR34z
          dsimp only at hR2 hM2 F N ⊢
          repeat' (first | (walk_at "P") | (walk_at "F"; walk_at "T"))
          rw [hn3] at hR2
          rename News _ _ _ _ => N9
          rw [hn3] at N9
          walk_at "H"; exact Turn.next (rows2, M2) (by assumption) (News.sub N9 perm2) (fun _ h => h) mat_hd ⟨rfl, trivial⟩ ⟨hR2.less, by dsimp only; rw [fold_succ, ← hM3]; exact hM2⟩
        case turnI =>
          clear N8 F8 hR3 hR3'
          intro i ti
          refine fpLooR fun rows M => ?_
          intro u h tk I o hi hR35z hne hit F N
          have hR := hR35z.1
          have hM := hR35z.2
          clear hR35z
          dsimp only at hR hM hne F N ⊢
          repeat' (first | (walk_at "P") | (walk_at "F"; walk_at "T"))
          rename News _ _ _ _ => N8
          rename Fr _ _ _ _ => F8
          have hrow := row_ne hne
          refine iter_to i (σ := List Row × List (List Int)) (fun c => (Nm, listOf nvs.toArray nc) :: (D, lst rs) :: (matLed c.1 ++ (n3 ++ [(I, o)]))) (fun c => [(Str.ofString "price", .ref D), (Str.ofString "middle", .int (k : Int) tm), (Str.ofString "i", .int (i : Int) ti)])
            (fun j c => RowsOk rs ((Nm, listOf nvs.toArray nc) :: (D, lst rs) :: (n3 ++ [(I, o)])) c.1 c.2 ∧ c.2 = (List.range j).foldl (fun M j => setSym M i j (min (get2 M i j) (max (get2 M i k) (get2 M k j)))) M) (rows, M) rfl (by assumption) rfl (by (walk_at "O")) F8 (News.sub N8 perm1) ⟨rfl, rfl, rfl, trivial⟩ ⟨hR.more hrow, rfl⟩ ?turnJ ?doneJ
          case doneJ =>
            clear N8 F8 hR
            refine fpLooR fun rows2 M2 => ?_
            intro u h tk hR36z F N
            have hR2 := hR36z.1
            have hM2 := hR36z.2
            clear hR36z
            dsimp only at hR2 hM2 F N ⊢
            repeat' (first | (walk_at "P") | (walk_at "F"; walk_at "T"))
            walk_at "H"; exact Turn.next (rows2, M2) (by assumption) (News.sub (by assumption) perm2) (fun _ h => h) mat_hd ⟨rfl, rfl, trivial⟩ ⟨hR2.less, by dsimp only; rw [fold_succ, ← hM]; exact hM2⟩
          case turnJ =>
            clear N8 F8 hR
            intro j tj
            refine fpLooR fun rows2 M2 => ?_
            intro u h tk I2 o2 hj hR37z hne2 hit2 F N
            have hR2 := hR37z.1
            have hM2 := hR37z.2
            clear hR37z
            dsimp only at hR2 hM2 hne2 F N ⊢
            have hrow2 := row_ne hne2
            have hof2 := hR2.off3 (p := (I2, o2)) hrow2
            replace N := News.sub N perm1
            repeat' (first | (walk_at "P") | (walk_at "F"; first | ((with_reducible show wpAny _ _ (setItem (Value.ref _) (Value.int _ _) _) _ _ _); ((try dsimp only); refine Uc.rows_set (by assumption) (by assumption) (by assumption) (by first | assumption | (walk_at "O")) (by first | assumption | (walk_at "O")) (by assumption) ?_; intro h' rows' R' ra' hl' F' N')) | ((with_reducible show wpAny _ _ (subscriptTail (PySem.Expr.Name _ _) (PySem.Expr.Name _ _) (Value.ref _) (Value.int _ _)) _ _ _); ((try dsimp only); first | (refine Uc.rows_row (by assumption) (by assumption) (by first | assumption | (walk_at "O")) ?_) | (refine Uc.rows_item (by assumption) (by assumption) (by first | assumption | (walk_at "O")) (by first | assumption | (walk_at "O")) ?_; intro t'))) | ((with_reducible show wpAny _ _ (call (Value.builtin "max") _) _ _ _); ((try dsimp only); refine Uc.max2_K rfl (by assumption) (by assumption) ?_; intro h' tk' u' F' N')) | ((with_reducible show wpAny _ _ (call (Value.builtin "min") _) _ _ _); ((try dsimp only); refine Uc.min2_K rfl (by assumption) (by assumption) ?_; intro h' tk' u' F' N')) | (walk_at "T")))
            rename RowsOk _ _ _ (set2 _ _ _ _) => R9
            rw [get2_set2 hR2 (by (walk_at "O")) (by (walk_at "O"))] at R9
            walk_at "H"; exact Turn.next (_, _) (by assumption) (News.sub (by assumption) perm2) (fun _ h => h) mat_hd ⟨rfl, rfl, rfl, trivial⟩ ⟨R9, by dsimp only; rw [fold_succ, ← hM2]; rfl⟩
    case turn1 =>
      clear N8 F8 hR0 hrs
      intro i ti
      refine fpLooR fun rows M => ?_
      intro u h tk I o hi hR38z hne hit F N
      have hR := hR38z.1
      have hM := hR38z.2
      clear hR38z
      dsimp only at hR hM hne F N ⊢
      repeat' (first | (walk_at "P") | (walk_at "F"; walk_at "T"))
      rename News _ _ _ _ => N8
      rename Fr _ _ _ _ => F8
      have hrow := row_ne hne
      refine iter_to i (σ := List Row × List (List Int)) (fun c => (Nm, listOf nvs.toArray nc) :: (D, lst rs) :: (matLed c.1 ++ (news ++ [(I, o)]))) (fun c => [(Str.ofString "price", .ref D), (Str.ofString "names", .ref Nm), (Str.ofString "i", .int (i : Int) ti)])
        (fun j c => RowsOk rs ((Nm, listOf nvs.toArray nc) :: (D, lst rs) :: (news ++ [(I, o)])) c.1 c.2 ∧ c.2 = (List.range j).foldl (fun M j => setSym M i j (farOf (nm.getD i []) (nm.getD j []))) M) (rows, M) rfl (by assumption) rfl (by (walk_at "O")) F8 (News.sub N8 perm1) ⟨rfl, rfl, rfl, trivial⟩ ⟨hR.more hrow, rfl⟩ ?turn2 ?done2
      case done2 =>
        refine fpLooR fun rows2 M2 => ?_
        intro u h tk hR39z F N
        have hR2 := hR39z.1
        have hM2 := hR39z.2
        clear hR39z
        dsimp only at hR2 hM2 F N ⊢
        repeat' (first | (walk_at "P") | (walk_at "F"; walk_at "T"))
        walk_at "H"; exact Turn.next (rows2, M2) (by assumption) (News.sub (by assumption) perm2) (fun _ h => h) mat_hd ⟨rfl, rfl, trivial⟩ ⟨hR2.less, by dsimp only; rw [fold_succ, ← hM]; exact hM2⟩
      case turn2 =>
        clear N8 F8
        intro j tj
        refine fpLooR fun rows2 M2 => ?_
        intro u h tk I2 o2 hj hR40z hne2 hit2 F N
        have hR2 := hR40z.1
        have hM2 := hR40z.2
        clear hR40z
        dsimp only at hR2 hM2 hne2 F N ⊢
        have hrow2 := row_ne hne2
        have hof2 := hR2.off3 (p := (I2, o2)) hrow2
        replace N := News.sub N perm1
        repeat' (first | (walk_at "P") | (walk_at "F"; walk_at "T"))
        rw [Int.toNat_natCast, Int.toNat_natCast, mkS_at nm i, mkS_at nm j]
        (refine far_c w p loose mean mg mb _ (nm.getD i []) (nm.getD j []) _ _ (len_at hl i) (len_at hl j) _ _ _ _ _ _ _ _ _ _ _ _ _ _ _ _ _ (by assumption) (by assumption) (by assumption) (by assumption) (by assumption) (by first | assumption | rfl) ?pre (by first | assumption | exact Uc.room3 (by assumption) (by decide) | exact Uc.room2 (by assumption) (by decide) | ktr_room) (by first | assumption | exact Uc.room3 (by assumption) (by decide) | exact Uc.room2 (by assumption) (by decide) | ktr_units) ?_); (case pre => first | exact trivial | assumption)
        refine kEn1v ?_
        intro t' h' tk' F N
        repeat' (first | (walk_at "P") | (walk_at "F"; first | ((with_reducible show wpAny _ _ (setItem (Value.ref _) (Value.int _ _) _) _ _ _); ((try dsimp only); refine Uc.rows_set (by assumption) (by assumption) (by assumption) (by first | assumption | (walk_at "O")) (by first | assumption | (walk_at "O")) (by assumption) ?_; intro h' rows' R' ra' hl' F' N')) | ((with_reducible show wpAny _ _ (subscriptTail (PySem.Expr.Name _ _) (PySem.Expr.Name _ _) (Value.ref _) (Value.int _ _)) _ _ _); ((try dsimp only); first | (refine Uc.rows_row (by assumption) (by assumption) (by first | assumption | (walk_at "O")) ?_) | (refine Uc.rows_item (by assumption) (by assumption) (by first | assumption | (walk_at "O")) (by first | assumption | (walk_at "O")) ?_; intro t'))) | (walk_at "T")))
        rename RowsOk _ _ _ (set2 _ _ _ _) => R9
        rw [get2_set2 hR2 (by (walk_at "O")) (by (walk_at "O"))] at R9
        walk_at "H"; exact Turn.next (_, _) (by assumption) (News.sub (by assumption) perm2) (fun _ h => h) mat_hd ⟨rfl, rfl, rfl, trivial⟩ ⟨R9, by dsimp only; rw [fold_succ, ← hM2]; rfl⟩
end
end Uc
end
section
namespace Uc
open PySem.Spec
noncomputable def leS (a b : Str) : Prop := a.cps.toList ≤ b.cps.toList
theorem leS_of {a b : Str} (h : (!ltCps b.cps.toList a.cps.toList) = true) : leS a b := by
  rw [ltCps_eq] at h
  simp only [Bool.not_eq_true', decide_eq_false_iff_not] at h
  exact List.not_lt.mp h
theorem rising_pw : ∀ (l : List Str) (p : Str), risingS p l = true → (p :: l).Pairwise leS
  | [], p, _ => List.pairwise_singleton _ _
  | x :: r, p, h => by
    have h' : (!ltCps x.cps.toList p.cps.toList && risingS x r) = true := h
    rw [Bool.and_eq_true] at h'
    have h1 := leS_of h'.1
    have h2 := rising_pw r x h'.2
    refine List.pairwise_cons.mpr ⟨fun y hy => ?_, h2⟩
    rcases List.mem_cons.mp hy with rfl | hy
    · exact h1
    · exact List.le_trans h1 ((List.pairwise_cons.mp h2).1 y hy)
theorem sorted_pw : ∀ (l : List Str), sortedS l = true → l.Pairwise leS
  | [], _ => List.Pairwise.nil
  | x :: r, h => rising_pw r x h
theorem str_ext {a b : Str} (h : a.cps.toList = b.cps.toList) : a = b := by
  cases a; cases b
  congr
  exact Array.toList_inj.mp h
theorem sorted_eq {a b : List Str} (ha : sortedS a = true) (hb : sortedS b = true) (hp : a.Perm b) : a = b :=
  List.Perm.eq_of_pairwise (fun x y _ _ h1 h2 => str_ext (List.le_antisymm h1 h2)) (sorted_pw a ha) (sorted_pw b hb) hp
theorem strsAre_at {vs : List Value} {ss : List Str} (h : StrsAre vs ss) : ∀ (j : Nat) (h1 : j < vs.length), ∃ t, vs[j] = .str (ss.getD j Str.empty) t := by
  induction h with
  | nil => intro j h1; exact absurd h1 (Nat.not_lt_zero _)
  | cons s t _ ih =>
    intro j h1
    cases j with
    | zero => exact ⟨t, rfl⟩
    | succ j => exact ih j (Nat.lt_of_succ_lt_succ h1)
section
variable {prog : Program} {w : World} {A : Around} {E : Value → Shared → Prop} {s : Shared} {h₀ : Heap} {L : Addr}
theorem strs_ne_ff {l b : Addr} {vs us : List Value} {ss : List Str} {Q : Value → Shared → Prop} (hl : s.heap.IsList l vs.toArray) (hb : s.heap.IsList b us.toArray) (S1 : StrsAre vs ss) (S2 : StrsAre us ss) (hu : A.units < cLine) (h : Q (.bool false) s) : wpAny (model prog w) A (compareOp .NotEq (.ref l) (.ref b)) Q E s := by
  have l1 := StrsAre.length S1
  have l2 := StrsAre.length S2
  have key := PySem.SeqAt.RcNeAt.lists (A := A) (s := s) (e := fun _ => true) hl hb (by rw [List.size_toArray, List.size_toArray]; omega) hu (fun j h1 h2 => by
    have g1 : j < vs.length := by simpa using h1
    have g2 : j < us.length := by simpa using h2
    obtain ⟨t, e1⟩ := strsAre_at S1 j g1
    obtain ⟨u, e2⟩ := strsAre_at S2 j g2
    rw [List.getElem_toArray, List.getElem_toArray, e1, e2]
    have := PySem.SeqAt.EqAt.str_str (A := A.in1) (s := s) (ss.getD j Str.empty) t (ss.getD j Str.empty) u
    rw [beq_self_eq_true] at this
    exact this)
  have e : (!(List.range vs.toArray.size).all fun _ => true) = false := by simp
  rw [e] at key
  exact cmp_ofNotEq (key prog w E Q h)
end
end Uc
end
section
namespace Uc
open PySem.StrLaws
theorem occ_count (x : Str) (c n : Nat) (hn : x.length ≤ n) : ∀ (k i : Nat) (st : Array Nat × Nat), i + k = x.length + 1 → st.1.size = (x.cps.toList.take i).count c → st.2 ≤ i →
    (forIn (List.range' i k) st (occBody x ⟨#[c]⟩ x.length (n + 1))).run.fst.size = x.cps.toList.count c
  | 0, i, st, hk, hs, _ => by
    show st.1.size = _
    rw [hs, List.take_of_length_le (by show x.cps.size ≤ i; have e : x.cps.size = x.length := rfl; (walk_at "O"))]
  | k + 1, i, st, hk, hs, hf => by
    rw [List.range'_succ, List.forIn_cons]
    unfold occBody
    have hle : st.1.size ≤ n := by
      rw [hs]
      have h1 := List.count_le_length (a := c) (l := x.cps.toList.take i)
      have h2 : (x.cps.toList.take i).length ≤ x.length := by rw [List.length_take]; exact Nat.min_le_right _ _
      (walk_at "O")
    by_cases h : x.cps.toList[i]? = some c
    · have h1 := (subAt_one x c i).mpr h
      rw [if_pos ⟨⟨⟨by (walk_at "O"), hf⟩, h1.1⟩, h1.2⟩]
      refine occ_count x c n hn k (i + 1) (st.1.push i, i + 1) (by (walk_at "O")) ?_ (Nat.le_refl _)
      show (st.1.push i).size = _
      rw [Array.size_push, hs, List.take_add_one, h, List.count_append]
      simp
    · have h1 : ¬ (((st.1.size < n + 1 ∧ st.2 ≤ i) ∧ i + (⟨#[c]⟩ : Str).length ≤ x.length) ∧ Builtin.Str.subAt x ⟨#[c]⟩ i = true) := fun q => h ((subAt_one x c i).mp ⟨q.1.2, q.2⟩)
      rw [if_neg h1]
      refine occ_count x c n hn k (i + 1) (st.1, st.2) (by (walk_at "O")) ?_ (Nat.le_succ_of_le hf)
      show st.1.size = _
      rw [hs, List.take_add_one, List.count_append]
      cases e : x.cps.toList[i]? with
      | none => simp
      | some d =>
        have hd : d ≠ c := fun q => h (by rw [e, q])
        simp [hd]
theorem txt_count (l : List Nat) (c : Nat) : Txt.count ⟨l.toArray⟩ ⟨#[c]⟩ = ((l.count c : Nat) : Int) := by
  unfold Txt.count
  rw [occ_eq]
  have := occ_count ⟨l.toArray⟩ c (⟨l.toArray⟩ : Str).length (Nat.le_refl _) ((⟨l.toArray⟩ : Str).length + 1 - 0) 0 (#[], 0) (by (walk_at "O")) rfl (Nat.le_refl _)
  rw [Array.length_toList, this]
end Uc
end
section
namespace Uc
open PyProof.Rows.LCg
section
variable (w : World) (p : Program) (loose : List Str) (mean : ExcName → Option Value) (mg mb : Str → Option Value)
theorem seg1 {h₀ : Heap} {L fa : Addr} {cd : Value} {s : Shared} {Q : Flow → Shared → Prop} {E : Value → Shared → Prop} {m : Str → Option Value} {A₀ : Around} {base : Heap} {outer : List Env} {dp un : Nat} {gd : Option (List Code)} (B : Below A₀ base outer h₀) (hpre : CodeHd base 213 209) (hdp : dp + 30 < recursionLimit) (hun : un + 120 < cLine) (X : (K w.params).In h₀) (T : Top p loose mean mg mb h₀)
    {sc : Addr} {vs : List Value} {ns : List Int} (hsc : h₀.IsList sc vs.toArray) (hI : IntsAre vs ns) (hlen : vs.length ≤ 63) {o1 o2 o3 o4 o5 : Obj} (d1 : o1.data = .cell (some (.ref sc))) (d2 : o2.data = .cell none) (d3 : o3.data = .cell none)
    (F : Fr h₀ L s.heap m) (N : News h₀ L s.heap [(L + 5, o5), (L + 4, o4), (L + 3, o3), (L + 2, o2), (L + 1, o1), (209, tabObj #[])]) (hTB : @LT.lt Nat _ 209 L)
    (ret : ∀ h' tk' m' D ys (nums : List Nat) o3', nums.length = 5 → (∀ n ∈ nums, n < 1000000) → IntsAre ys (nums.map fun (n : Nat) => (n : Int)) → o3'.data = .cell (some (.ref D)) → Fr h₀ L h' m' → News h₀ L h' [(D, lst ys), (L + 5, o5), (L + 4, o4), (L + 3, o3'), (209, tabObj #[])] → ((@Ne Nat (L + 5) D) ∧ (@Ne Nat (L + 4) D) ∧ (@Ne Nat (L + 3) D) ∧ (@Ne Nat 209 D)) → Q .next { s with heap := h', toks := tk' }) :
    wpAny (model Pm w) (lawA dp un gd outer L fa cd) (execs [ls0, ls1] (lawEnv L fa cd)) Q E s := by
  revert X
  dsimp only [Pm]
  k_fill
  intro X
  unfold ls0 ls1
  dsimp only [lawEnv, lawA, lawCl]
  repeat' (first | (walk_at "P") | (walk_at "F"; first | ((with_reducible show wpAny _ _ (eval (PySem.Expr.ListComp _ _ _ _) _) _ _ _); (k_dflt (refine Uc.comp_range (by rfl) (by decide) (by rfl) (by decide) (by rfl) ?_))) | (walk_at "T")))
  rename Fr _ _ _ _ => F1
  rename News _ _ _ _ => N0
  obtain ⟨led, hled, N1⟩ := nameLed N0
  clear N0
  refine Uc.ei11 _ _ _ _ _ _ _ _ 5 led (fun i ys nw => nw = led ∧ ∃ nums : List Nat, nums.length = i ∧ (∀ n ∈ nums, n < 1000000) ∧ IntsAre ys (nums.map fun (n : Nat) => (n : Int))) ⟨rfl, rfl, F1, N1, by assumption, rfl, by decide, ⟨rfl, [], rfl, fun _ h => (nomatch h), .nil⟩, ?T, ?fin⟩
  case T =>
    intro g i v ys nw I oI C oC D m₂ h tk E' hi w3q w4q _ hoC hm2 F N off w5q; obtain ⟨tv, rfl⟩ := w3q; (refine Uc.ah2 w4q fun e1q q0q => Uc.ex1 q0q fun nums => Uc.an3 fun hn1 hn2 hn3 => ?_; clear w4q q0q; subst e1q); (refine Uc.ah3 w5q fun d1' d2' d3' => ?_; clear w5q)
    subst hled
    refine wpAny_tests_nil ?_
    simp only [if_true]
    repeat' (first | (walk_at "P") | (walk_at "F"; first | ((k_here; (with_reducible show wpAny _ _ (subscriptTail _ (PySem.Expr.Slice (some _) none (some _) _) (Value.ref _) (Value.ref _)) _ _ _); k_dflt (refine' Uc.slice3_ints ?F ?N ?l ?kl ?ku ?k ?h0 ?i ?_ ?s ?t ?z; (case F => k_asm); (case N => k_asm); (case l => kmk_list); (case kl => exact IsPart.int _ _); (case ku => exact IsPart.none); (case k => exact IsPart.int _ _); (case h0 => decide); (case i => assumption); (case s => with_unfolding_all rfl); (case t => kmk_pure); (case z => size_fits)); intro D' ws' ms' h' F' N' l1 hI'; (try k_lt l1); (try k_sweep))) | (walk_at "T")))
    rename IntsAre _ _ => hms
    obtain ⟨k, hk, ek⟩ := mod_million (([23234, 12122, 9842, 3270, 20782] : List Int).getD ((i : Int)).toNat 0 + List.sum _)
    exact TurnC.mk _ (by assumption) (by assumption) (fun _ h => .tail _ h) off ⟨trivial, rfl, nums ++ [k], by rw [List.length_append, hn1]; rfl, fun n hn => (List.mem_append.mp hn).elim (hn2 n) (fun e => by rw [List.mem_singleton.mp e]; exact hk), intsAre_snoc hn3 ek⟩
  case fin =>
    clear N1 F1
    intro D h tk ys nw w6q F N o1; (refine Uc.ah2 w6q fun e1q q0q => Uc.ex1 q0q fun nums => Uc.an3 fun hn1 hn2 hn3 => ?_; clear w6q q0q; subst e1q)
    subst hled
    (refine Uc.ah8 o1 fun f1 f2 f3 f4 f5 f6 f7 _ => ?_; clear o1)
    have f4' := Ne.symm f4
    repeat' (first | (walk_at "P") | (walk_at "F"; walk_at "T"))
    exact ret _ _ _ _ _ nums _ hn1 hn2 hn3 (by assumption) (by assumption) (News.sub (by assumption) (by first | (intro _ h; first | exact h | exact .tail _ h | exact .tail _ (.tail _ h) | exact .tail _ (.tail _ (.tail _ h))) | ((with_reducible repeat (first | exact Uc.ledgR | refine Uc.ledgK ?_ | refine Uc.ledgD ?_)); done) | (intro _ h; simp only [List.mem_cons, List.mem_append, List.mem_singleton, List.not_mem_nil, or_false] at h ⊢; grind))) ⟨f2, f3, f4, f7⟩
end
end Uc
end
section
namespace Uc
open PyProof.Rows.LCg
section
variable (w : World) (p : Program) (loose : List Str) (mean : ExcName → Option Value) (mg mb : Str → Option Value)
theorem seg8 {h₀ : Heap} {L fa : Addr} {cd : Value} {s : Shared} {Q : Flow → Shared → Prop} {E : Value → Shared → Prop} {u : Str → Option Value} {A₀ : Around} {base : Heap} {outer : List Env} {dp un : Nat} {gd : Option (List Code)} (B : Below A₀ base outer h₀) (hpre : CodeHd base 213 209) (hdp : dp + 30 < recursionLimit) (hun : un + 120 < cLine) (hE : PassesOwn (model Pm w) (lawA dp un gd outer L fa cd) (lawEnv L fa cd) E) (X : (K w.params).In h₀) (T : Top p loose mean mg mb h₀)
    {o3 o4 o5 : Obj} {Ol Cl Ml Nl : Addr} {ys zs : List Value} {tt : Tok} {tps : Array Value} {q : Lex} {tl : Tok} {pn sn : Nat} {ss ovs cvs : List Value} {oc cc : Nat} {txt : Str} {LN : Int} {os nms : List (List Nat)} (d4 : o4.data = .cell (some (.ref Nl)))
    (ho5 : os.length = 5) (hn5 : nms.length = 5) (hperm : os.Perm nms) (hfirst : os.head? = nms.head?) (hO : StrsAre ovs (os.map mkS)) (hS : StrsAre zs (nms.map mkS))
    (F : Fr h₀ L s.heap (fm u [(Str.ofString "columns", .ref Cl), (Str.ofString "order", .ref Ol), (Str.ofString "text", .str txt tt)])) (N : News h₀ L s.heap (lexLed w q LN tl [] pn ss sn ++ [(Ol, listOf ovs.toArray oc), (Cl, listOf cvs.toArray cc), (209, tabObj tps), (Nl, lst zs), (Ml, lst ys), (L + 5, o5), (L + 4, o4), (L + 3, o3)]))
    (ret : ∀ h' tk', Fr h₀ L h' (fm u [(Str.ofString "columns", .ref Cl), (Str.ofString "order", .ref Ol), (Str.ofString "text", .str txt tt)]) → News h₀ L h' (lexLed w q LN tl [] pn ss sn ++ [(Ol, listOf ovs.toArray oc), (Cl, listOf cvs.toArray cc), (209, tabObj tps), (Nl, lst zs), (Ml, lst ys), (L + 5, o5), (L + 4, o4), (L + 3, o3)]) → Q .next { s with heap := h', toks := tk' }) :
    wpAny (model Pm w) (lawA dp un gd outer L fa cd) (exec ls10 (lawEnv L fa cd)) Q E s := by
  revert X
  dsimp only [Pm]
  k_fill
  intro X
  unfold ls10
  dsimp only [lawEnv, lawA, lawCl]
  have hol : ovs.length = 5 := by rw [StrsAre.length hO, List.length_map, ho5]
  have hzl : zs.length = 5 := by rw [StrsAre.length hS, List.length_map, hn5]
  obtain ⟨x0, os', rfl⟩ : ∃ x0 os', os = x0 :: os' := by
    cases os with
    | nil => cases ho5
    | cons a b => exact ⟨a, b, rfl⟩
  obtain ⟨ns', rfl⟩ : ∃ ns', nms = x0 :: ns' := by
    cases nms with
    | nil => cases hn5
    | cons a b => cases hfirst; exact ⟨b, rfl⟩
  obtain ⟨t0, ovs', rfl⟩ : ∃ t0 ovs', ovs = .str (mkS x0) t0 :: ovs' := by cases hO; exact ⟨_, _, rfl⟩
  obtain ⟨t1, zs', rfl⟩ : ∃ t1 zs', zs = .str (mkS x0) t1 :: zs' := by cases hS; exact ⟨_, _, rfl⟩
  have hmap := hperm.map mkS
  have hnn : (mkS x0 != mkS x0) = false := by simp
  repeat' (first | (walk_at "P") | (walk_at "F"; first | ((with_reducible show ite _ _ _); first | (rw [if_pos (by first | (simp only [decide_eq_true_eq, bne_iff_ne, ne_eq]; omega) | (simp only [decide_eq_true_eq]; omega))]) | (rw [if_neg (by first | (simp only [decide_eq_true_eq, bne_iff_ne, ne_eq]; omega) | (simp only [decide_eq_true_eq]; omega))])) | (((try dsimp only); (with_reducible show wpAny _ _ (subscriptTail _ _ (Value.ref _) (Value.int 0 _)) _ _ _); (refine item_list (News.isList (by assumption) (by k_mem)) (by decide) (by decide) rfl ?_))) | (walk_at "T")))
  show wpAny _ _ (compareOp .NotEq (.str (mkS x0) t0) (.str (mkS x0) t1)) _ _ _
  iterate 11 (first | (k_unfold; (try dsimp only)) | walk1 | (dsimp only; walk1) | (leave1; try dsimp only))
  (try dsimp only)
  refine sorted_N_str F N (News.isList N (List.mem_append_right _ (.head _))) hO (by rw [hol]; decide) fun h1 v1 s1 e1 F1 N1 S1 P1 Q1 => ?_
  iterate 6 (first | (k_unfold; (try dsimp only)) | walk1 | (dsimp only; walk1) | (leave1; try dsimp only))
  (try dsimp only)
  refine sorted_N_str F1 N1 (News.isList N1 (.tail _ (List.mem_append_right _ (.tail _ (.tail _ (.tail _ (.head _))))))) hS (by rw [hzl]; decide) fun h2 v2 s2 e2 F2 N2 S2 P2 Q2 => ?_
  obtain rfl : s1 = s2 := sorted_eq Q1 Q2 (P1.trans (hmap.trans P2.symm))
  refine strs_ne_ff (News.isList N2 (.tail _ (.head _))) (News.isList N2 (.head _)) S1 S2 (by show un < cLine; (walk_at "O")) ?_
  repeat' (first | (walk_at "P") | (walk_at "F"; walk_at "T"))
  exact ret _ _ F2 (News.sub N2 fun p hp => .tail _ (.tail _ hp))
end
end Uc
end
section
namespace Uc
open PyProof.Rows.LCg
theorem permK {α : Type} {a c : α} {l r : List α} : ∀ p ∈ a :: (l ++ (c :: r)), p ∈ l ++ (a :: c :: r) := fun p hp => by
  simp only [List.mem_cons, List.mem_append] at hp ⊢
  rcases hp with h | h | h | h <;> simp [h]
section
variable {prog : Program} {w : World} {A : Around} {E : Value → Shared → Prop} {s : Shared} {h₀ : Heap} {L l : Addr} {m : Str → Option Value} {news : List (Addr × Obj)} {value slice : PySem.Expr} {vs : List Value} {ns : List Int} {Q : Value → Shared → Prop}
theorem colSlice {i j : Nat} {ti tj : Tok} (F : Fr h₀ L s.heap m) (N : News h₀ L s.heap news) (hl : s.heap.IsList l vs.toArray) (hI : IntsAre vs ns) (hj : j ≤ ns.length)
    (h : ∀ D us h', Fr h₀ L h' m → News h₀ L h' ((D, listOf (List.toArray us) 0) :: news) → IntsAre us ((ns.drop i).take (j - i)) → Q (.ref D) { s with heap := h' })
    (hs : subscripted slice false (.ref l) (.ref s.heap.objs.size) = operate [.ref s.heap.objs.size, .ref l] (getItem (.ref l) (.ref s.heap.objs.size))) (ht : ∀ r, letTemporaryGo value (.ref l) r = pure ()) (hz : vs.toArray.size ≤ sizeLine) :
    wpAny (model prog w) A (subscriptTail value slice (.ref l) (.ref s.heap.objs.size)) Q E { s with heap := s.heap.push { cls := .type "slice", data := .fields #[.int (i : Int) ti, .int (j : Int) tj, .none] } } := by
  have hm := kmk_run hI (x := (i : Int)) (y := (j : Int)) (by (walk_at "O")) (by (walk_at "O"))
  rw [Int.toNat_natCast, Int.toNat_natCast, Nat.min_eq_left hj] at hm
  exact kmk_slice_ints F N hl (IsPart.int _ _) (IsPart.int _ _) hI hm rfl (fun D us h' F' N' _ hI' _ _ => h D us h' F' N' hI') hs ht hz
end
section
variable (w : World) (p : Program) (loose : List Str) (mean : ExcName → Option Value) (mg mb : Str → Option Value)
theorem seg9 {h₀ : Heap} {L fa : Addr} {cd : Value} {s : Shared} {Q : Flow → Shared → Prop} {E : Value → Shared → Prop} {u : Str → Option Value} {A₀ : Around} {base : Heap} {outer : List Env} {dp un : Nat} {gd : Option (List Code)} (B : Below A₀ base outer h₀) (hpre : CodeHd base 213 209) (hdp : dp + 30 < recursionLimit) (hun : un + 120 < cLine) (hE : PassesOwn (model Pm w) (lawA dp un gd outer L fa cd) (lawEnv L fa cd) E) (X : (K w.params).In h₀) (T : Top p loose mean mg mb h₀)
    {o3 o4 o5 : Obj} {Ol Cl Ml Nl : Addr} {ys zs : List Value} {tt : Tok} {tps : Array Value} {q : Lex} {tl : Tok} {pn sn : Nat} {ss ovs cvs : List Value} {oc cc : Nat} {txt : Str} {LN : Int} {os : List (List Nat)} {cs : List Int}
    (ho5 : os.length = 5) (hl3 : ∀ x ∈ os, x.length ≤ 3) (hO : StrsAre ovs (os.map mkS)) (hC : IntsAre cvs cs) (hc4 : cs.length = 4) (hK : ∀ i j : Nat, i < j → j ≤ 4 → ∀ M : Int, M ∈ (cs.drop i).take (j - i) → (∀ x ∈ (cs.drop i).take (j - i), M ≤ x) → M = 7 - get2 (dearest os) i j)
    (F : Fr h₀ L s.heap (fm u [(Str.ofString "columns", .ref Cl), (Str.ofString "order", .ref Ol), (Str.ofString "text", .str txt tt)])) (N : News h₀ L s.heap (lexLed w q LN tl [] pn ss sn ++ [(Ol, listOf ovs.toArray oc), (Cl, listOf cvs.toArray cc), (209, tabObj tps), (Nl, lst zs), (Ml, lst ys), (L + 5, o5), (L + 4, o4), (L + 3, o3)]))
    (ret : ∀ h' tk' m', Has m' [(Str.ofString "text", .str txt tt)] → Fr h₀ L h' m' → News h₀ L h' (lexLed w q LN tl [] pn ss sn ++ [(209, tabObj tps), (Nl, lst zs), (Ml, lst ys), (L + 5, o5), (L + 4, o4), (L + 3, o3)]) → Q .next { s with heap := h', toks := tk' }) :
    wpAny (model Pm w) (lawA dp un gd outer L fa cd) (execs [ls11, ls12] (lawEnv L fa cd)) Q E s := by
  revert X
  dsimp only [Pm]
  k_fill
  intro X
  unfold ls11 ls12
  dsimp only [lawEnv, lawA, lawCl]
  have hol : ovs.length = 5 := by rw [StrsAre.length hO, List.length_map, ho5]
  have hcvl : cvs.length = 4 := by rw [intsAre_len hC, hc4]
  have N2 := News.sub (b := (Ol, listOf ovs.toArray oc) :: (lexLed w q LN tl [] pn ss sn ++ ((Cl, listOf cvs.toArray cc) :: [(209, tabObj tps), (Nl, lst zs), (Ml, lst ys), (L + 5, o5), (L + 4, o4), (L + 3, o3)]))) N permK
  repeat' (first | (walk_at "P") | (walk_at "F"; walk_at "T"))
  (refine dearest_c w p loose mean mg mb (lexLed w q LN tl [] pn ss sn ++ ((Cl, listOf cvs.toArray cc) :: [(209, tabObj tps), (Nl, lst zs), (Ml, lst ys), (L + 5, o5), (L + 4, o4), (L + 3, o3)])) Ol ovs oc os hO ho5 hl3 _ _ _ _ _ _ _ _ _ _ _ _ _ _ _ _ _ (by assumption) (by assumption) (by assumption) (by assumption) (by assumption) (by first | assumption | rfl) ?pre (by first | assumption | exact Uc.room3 (by assumption) (by decide) | exact Uc.room2 (by assumption) (by decide) | ktr_room) (by first | assumption | exact Uc.room3 (by assumption) (by decide) | exact Uc.room2 (by assumption) (by decide) | ktr_units) ?_); (case pre => first | exact trivial | assumption)
  first | refine kE3npv ?_ | refine kE3vpn ?_
  intro Pr pc rows h' tk' hMat F N
  clear N2
  repeat' (first | (walk_at "P") | (walk_at "F"; (fail_if_success (with_reducible show wpAny _ _ (execs (PySem.Stmt.For _ _ _ _ ⟨237, _, _, _⟩ :: _) _) _ _ _)); walk_at "T"))
  (try dsimp only)
  rename Fr _ _ _ _ => F8
  rename News _ _ _ _ => N8
  walk_at "H"
  refine wpAny_execs_cons ?_
  walk_at "H"
  refine For_invV (hE := hE) h₀ (by rfl) (by rfl) ?_
  repeat' (first | (walk_at "P") | (walk_at "F"; first | ((with_reducible show wpAny _ _ (call (Value.type "range") _) _ _ _); ((rename Fr _ _ _ _ => F'); (rename News _ _ _ _ => N'); first | (with_unfolding_all refine range1_rows F' N' ?_; intro _ _ _ _ _ _ _ _ _) | (with_unfolding_all refine range2_rows F' N' ?_; intro _ _ _ _ _ _ _ _ _))) | (walk_at "T")))
  rename Fr _ _ _ _ => F7
  rename News _ _ _ _ => N7
  obtain ⟨led, hled, N7⟩ := nameLed N7
  have hPr : (Pr, listOf (refsOf rows).toArray pc) ∈ led := by rw [← hled]; exact .tail _ (.head _)
  have hMt : ∀ p ∈ matLed rows, p ∈ led := fun p hp => by rw [← hled]; exact .tail _ (.tail _ (List.mem_append_left _ hp))
  have hCl : (Cl, listOf cvs.toArray cc) ∈ led := by rw [← hled]; exact .tail _ (.tail _ (List.mem_append_right _ (List.mem_append_right _ (.head _))))
  have hEnd : ∀ p ∈ lexLed w q LN tl [] pn ss sn ++ [(209, tabObj tps), (Nl, lst zs), (Ml, lst ys), (L + 5, o5), (L + 4, o4), (L + 3, o3)], p ∈ led := fun p hp => by
    rw [← hled]
    rcases List.mem_append.mp hp with hp | hp
    · exact .tail _ (.tail _ (List.mem_append_right _ (List.mem_append_left _ hp)))
    · exact .tail _ (.tail _ (List.mem_append_right _ (List.mem_append_right _ (.tail _ hp))))
  clear hled
  refine iter_to 4 (σ := Unit) (fun _ => led) (fun _ => [(Str.ofString "price", .ref Pr), (Str.ofString "columns", .ref Cl), (Str.ofString "text", .str txt tt)]) (fun _ _ => True) () rfl (by assumption) rfl (by (walk_at "O")) F7 N7 ⟨rfl, rfl, rfl, trivial⟩ trivial ?turn ?done
  case done =>
    clear F7 N7
    rintro _ u h tk _ F N
    dsimp only at F N ⊢
    repeat' (first | (walk_at "P") | (walk_at "F"; walk_at "T"))
    exact ret _ _ _ ⟨rfl, trivial⟩ (by assumption) (News.sub N hEnd)
  case turn =>
    clear F7 N7
    rintro i ti _ u h tk I o hi _ hne hit F N
    dsimp only at hne F N ⊢
    (try dsimp only)
    walk_at "H"
    refine wpAny_execs_cons ?_
    walk_at "H"
    refine For_invV (hE := hE) h₀ (by rfl) (by rfl) ?_
    repeat' (first | (walk_at "P") | (walk_at "F"; first | ((with_reducible show wpAny _ _ (call (Value.type "range") _) _ _ _); ((rename Fr _ _ _ _ => F'); (rename News _ _ _ _ => N'); first | (with_unfolding_all refine range1_rows F' N' ?_; intro _ _ _ _ _ _ _ _ _) | (with_unfolding_all refine range2_rows F' N' ?_; intro _ _ _ _ _ _ _ _ _))) | (walk_at "T")))
    rename IsRange _ _ _ 5 _ _ _ _ => hr
    rename Fr _ _ _ _ => F7
    rename News _ _ _ _ => N7
    refine iter_range (a := (i : Int) + 1) (b := 5) (c := 1) (n := 4 - i) (σ := Unit) (fun _ => led ++ [(I, o)]) (fun _ => [(Str.ofString "price", .ref Pr), (Str.ofString "columns", .ref Cl), (Str.ofString "text", .str txt tt), (Str.ofString "i", .int (i : Int) ti)]) (fun _ _ => True) () rfl hr (rsmall (by (walk_at "O")) (by (walk_at "O")) (by (walk_at "O")) (by (walk_at "O")) (by (walk_at "O")) (by (walk_at "O"))) (by
       unfold Builtin.Range.rangeSize
       rw [if_pos (by decide)]
       split <;> (walk_at "O")) F7 N7 ⟨rfl, rfl, rfl, rfl, trivial⟩ trivial ?turn2 ?done2
    case done2 =>
      clear F7 N7
      rintro _ u h tk _ F N
      dsimp only at F N ⊢
      repeat' (first | (walk_at "P") | (walk_at "F"; walk_at "T"))
      walk_at "H"; exact Turn.next () (by assumption) N (fun _ h => h) (fun p hp => .inl (List.mem_map_of_mem hp)) ⟨rfl, rfl, rfl, trivial⟩ trivial
    case turn2 =>
      clear F7 N7
      rintro j' tj _ u h tk I2 o2 hj' _ hne2 hit2 F N
      dsimp only at hne2 F N ⊢
      obtain ⟨j, hj⟩ : ∃ j : Nat, j = i + 1 + j' := ⟨_, rfl⟩
      rw [show (i : Int) + 1 + (j' : Int) * 1 = ((j : Nat) : Int) by (walk_at "O")] at F
      have hrl := hMat.l1
      have hr0 := hMat.rowI i (by (walk_at "O"))
      have hrI := hr0.1
      have hrj := hr0.2
      iterate 26 (first | (k_unfold; (try dsimp only)) | (first | ((with_reducible show wpAny _ _ (call (Value.builtin "min") _) _ _ _); ((try dsimp only); (refine kso_min F9 N9 (News.isList N9 (.head _)) hI9 (by simp only [List.length_take, List.length_drop]; (walk_at "O")) rfl ?_); intro hM9 M9 tM9 kM9 FM9 NM9 a9 b9)) | (((with_reducible show wpAny _ _ (subscriptTail _ (PySem.Expr.Slice (some _) (some _) none _) (Value.ref _) (Value.ref _)) _ _ _); refine Uc.colSlice (by assumption) (by assumption) (News.isList (by assumption) (List.mem_append_left _ (List.mem_append_left _ hCl))) hC (by (walk_at "O")) ?_ (by with_unfolding_all rfl) (by kmk_pure) (by rw [List.size_toArray, sizeLine_eq]; (walk_at "O")); intro D9 us9 h9 F9 N9 hI9)) | ((with_reducible show wpAny _ _ (call (Value.type "range") _) _ _ _); ((rename Fr _ _ _ _ => F'); (rename News _ _ _ _ => N'); first | (with_unfolding_all refine range1_rows F' N' ?_; intro _ _ _ _ _ _ _ _ _) | (with_unfolding_all refine range2_rows F' N' ?_; intro _ _ _ _ _ _ _ _ _)))) | walk1 | (dsimp only; walk1) | (leave1; try dsimp only))
      (try dsimp only)
      refine mat_row NM9 (.tail _ (List.mem_append_left _ (List.mem_append_left _ hPr))) (by (walk_at "O")) (by (walk_at "O")) ?_
      iterate 1 (first | (k_unfold; (try dsimp only)) | walk1 | (dsimp only; walk1) | (leave1; try dsimp only))
      (try dsimp only)
      refine kba_turn (value' := PySem.Expr.Name (PySem.Str.ofString "_") ⟨0, 0, 0, 0⟩) (fun _ => rfl) ?_
      refine mat_item NM9 (fun p hp => .tail _ (List.mem_append_left _ (List.mem_append_left _ (hMt p hp)))) (by (walk_at "O")) hrI (by (walk_at "O")) (by (walk_at "O")) fun tM9 => ?_
      have eM := hK i j (by (walk_at "O")) (by (walk_at "O")) M9 a9 b9
      iterate 2 (first | (k_unfold; (try dsimp only)) | walk1 | (dsimp only; walk1) | (leave1; try dsimp only))
      have eB : (M9 != 7 - ((dearest os).getD i []).getD j 0) = false := by rw [eM]; simp [get2]
      rw [eB]
      repeat' (first | (walk_at "P") | (walk_at "F"; walk_at "T"))
      walk_at "H"; exact Turn.next () (by assumption) (News.sub NM9 fun p hp => .tail _ hp) (fun _ h => h) (fun p hp => .inl (List.mem_map_of_mem hp)) ⟨rfl, rfl, rfl, rfl, trivial⟩ trivial
end
end Uc
end
section
namespace Uc
open PyProof.Rows.LCg
section
variable (w : World) (p : Program) (loose : List Str) (mean : ExcName → Option Value) (mg mb : Str → Option Value)
theorem seg10 {h₀ : Heap} {L fa : Addr} {cd : Value} {s : Shared} {Q : Flow → Shared → Prop} {E : Value → Shared → Prop} {u : Str → Option Value} {A₀ : Around} {base : Heap} {outer : List Env} {dp un : Nat} {gd : Option (List Code)} (B : Below A₀ base outer h₀) (hpre : CodeHd base 213 209) (hdp : dp + 30 < recursionLimit) (hun : un + 120 < cLine) (hE : PassesOwn (model Pm w) (lawA dp un gd outer L fa cd) (lawEnv L fa cd) E) (X : (K w.params).In h₀) (T : Top p loose mean mg mb h₀)
    {o3 o4 o5 : Obj} {Ml Nl : Addr} {ys zs : List Value} {tt : Tok} {tps : Array Value} {q : Lex} {tl : Tok} {pn sn : Nat} {ss : List Value} {cs x : List Nat} {LN : Int} (d5 : o5.data = .cell (some (.ref q.X)))
    (hss : StrsAre ss (chrs cs)) (hA : Ahead [] cs) (hlen : cs.length ≤ 1000) (hLN : (cs.count 10 : Int) ≤ LN ∧ LN ≤ 100000) (hx : LN = 1 + x.count 10) (hxl : x.length ≤ 1000)
    (ok : LexOk q [(209, tabObj tps), (Nl, lst zs), (Ml, lst ys), (L + 5, o5), (L + 4, o4), (L + 3, o3)])
    (F : Fr h₀ L s.heap (fm u [(Str.ofString "text", .str (mkS x) tt)])) (N : News h₀ L s.heap (lexLed w q (LN - cs.count 10) tl [] pn ss sn ++ [(209, tabObj tps), (Nl, lst zs), (Ml, lst ys), (L + 5, o5), (L + 4, o4), (L + 3, o3)]))
    (ret : ∀ h' tk' m' news', Fr h₀ L h' m' → News h₀ L h' ((209, tabObj tps) :: news') → Q (.ret (.bool true)) { s with heap := h', toks := tk' }) :
    wpAny (model Pm w) (lawA dp un gd outer L fa cd) (execs [ls13, ls14] (lawEnv L fa cd)) Q E s := by
  revert X
  dsimp only [Pm]
  k_fill
  intro X
  unfold ls13 ls14
  dsimp only [lawEnv, lawA, lawCl]
  obtain ⟨ws, hw, hcs⟩ := id hA
  have e1 : tokGo cs = ([101, 110, 100], []) := by rw [hcs]; exact read_end ws hw
  repeat' (first | (walk_at "P") | (walk_at "F"; walk_at "T"))
  (try dsimp only [List.append_nil, List.nil_append, List.cons_append])
  (refine get_new w p loose mean mg mb [(209, tabObj tps), (Nl, lst zs), (Ml, lst ys), (L + 5, o5), (L + 4, o4), (L + 3, o3)] q LN tl pn ss sn cs hss (by (walk_at "O")) hLN ok _ _ _ _ _ _ _ _ _ _ _ _ _ _ _ _ _ (by assumption) (by assumption) (by assumption) (by assumption) (by assumption) (by first | assumption | rfl) ?pre (by first | assumption | exact Uc.room3 (by assumption) (by decide) | exact Uc.room2 (by assumption) (by decide) | ktr_room) (by first | assumption | exact Uc.room3 (by assumption) (by decide) | exact Uc.room2 (by assumption) (by decide) | ktr_units) ?_); (case pre => first | exact trivial | assumption)
  first | refine kE5npv ?_ | refine kE5vpn ?_
  intro tl' pn' ss' sn' t' h' tk' hss' F N
  rw [e1] at hss' N ⊢
  dsimp only at hss' N
  have e2 : ((⟨([101, 110, 100], ([] : List Nat)).1.toArray⟩ : Str) != Str.ofString "end") = false := by decide
  iterate 3 (first | (k_unfold; (try dsimp only)) | walk1 | (dsimp only; walk1) | (leave1; try dsimp only))
  rw [e2]
  repeat' (first | (walk_at "P") | (walk_at "F"; walk_at "T"))
  (try dsimp only [List.append_nil, List.nil_append, List.cons_append])
  (refine get_new w p loose mean mg mb [(209, tabObj tps), (Nl, lst zs), (Ml, lst ys), (L + 5, o5), (L + 4, o4), (L + 3, o3)] q LN tl' pn' ss' sn' [] hss' (by decide) (by show (0 : Int) ≤ LN ∧ _; (walk_at "O")) ok _ _ _ _ _ _ _ _ _ _ _ _ _ _ _ _ _ (by assumption) (by assumption) (by assumption) (by assumption) (by assumption) (by first | assumption | rfl) ?pre (by first | assumption | exact Uc.room3 (by assumption) (by decide) | exact Uc.room2 (by assumption) (by decide) | ktr_room) (by first | assumption | exact Uc.room3 (by assumption) (by decide) | exact Uc.room2 (by assumption) (by decide) | ktr_units) ?_); (case pre => first | exact trivial | assumption)
  first | refine kE5npv ?_ | refine kE5vpn ?_
  intro tl2 pn2 ss2 sn2 t2 h' tk' hss2 F N
  have e3 : ((⟨(tokGo []).1.toArray⟩ : Str) != Str.ofString "") = false := by decide
  iterate 3 (first | (k_unfold; (try dsimp only)) | walk1 | (dsimp only; walk1) | (leave1; try dsimp only))
  rw [e3]
  repeat' (first | (walk_at "P") | (walk_at "F"; walk_at "T"))
  have ec : Txt.count (mkS x) (Str.ofString "\n") = ((x.count 10 : Nat) : Int) := txt_count x 10
  have ev : (LN - ((List.count 10 (tokGo []).2 : Nat) : Int) == 1 + Txt.count (mkS x) (Str.ofString "\n")) = true := by
    rw [ec, hx]
    show ((1 + (x.count 10 : Int)) - ((0 : Nat) : Int) == 1 + (x.count 10 : Int)) = true
    simp
  rw [ev]
  exact ret _ _ _ _ (by assumption) (News.sub (by assumption) (b := (209, tabObj tps) :: []) fun p hp => by
    rw [List.mem_singleton.mp hp]
    exact List.mem_append_right _ (.head _))
end
end Uc
end
section
namespace Uc
open PyProof.Rows.LCg
theorem execs_app_wp {M : Model} {A : Around} {env : Env} {Q : Flow → Shared → Prop} {E : Value → Shared → Prop} {rest : List Stmt} {Γ : Ctx} (hΓ : Γ.In A) : ∀ (l : List Stmt) (p : Pos) (s : Shared),
    Sem.wp M Γ (execs l env) (fun f _ s' => match f with | .next => wpAny M A (execs rest env) Q E s' | f => Q f s') (fun e _ s' => E e s') p s → Sem.wp M Γ (execs (l ++ rest) env) (fun f _ s' => Q f s') (fun e _ s' => E e s') p s
  | [], p, s, h => by
    have h1 : wpAny M A (execs rest env) Q E s := h
    exact h1 Γ p hΓ
  | st :: l, p, s, h => by
    rw [List.cons_append, execs_cons, Sem.wp_bind']
    rw [execs_cons, Sem.wp_bind'] at h
    refine Sem.wp_mono M Γ _ (fun f p' s' h' => ?_) (fun _ _ _ h' => h') _ _ h
    cases f with
    | next => exact execs_app_wp hΓ l p' s' h'
    | _ => exact h'
theorem execs_app {M : Model} {A : Around} {env : Env} {Q : Flow → Shared → Prop} {E : Value → Shared → Prop} {rest : List Stmt} (l : List Stmt) {s : Shared} (h : wpAny M A (execs l env) (fun f s' => match f with | .next => wpAny M A (execs rest env) Q E s' | f => Q f s') E s) : wpAny M A (execs (l ++ rest) env) Q E s := fun Γ p hΓ => execs_app_wp hΓ l p s (h Γ p hΓ)
theorem wAre_new {sz : Nat} : ∀ {ps : List Value} {nums : List Nat} (_ : StrsAre ps (nums.map fun n => mkS (nameOf n))) (_ : ∀ k ∈ nums, NameOk (nameOf k)), WAre sz ps ((nums.map nameOf).map fun m => (0, m))
  | ps, [], h, _ => by cases h; exact .nil
  | ps, n :: nums, h, hk => by
    cases h with
    | cons s t h' => exact .cons (ww_new (hk n (.head _)) sz t) (wAre_new h' fun k q => hk k (.tail _ q))
noncomputable def PrimLaw : Prop := ∀ (nms os : List (List Nat)) (cs : List Nat), Run nms os cs [] → os.length = 5 → ∀ i j : Nat, i < j → j ≤ 4 → ∀ M : Int, M ∈ ((cs.map fun (n : Nat) => (n : Int)).drop i).take (j - i) → (∀ x ∈ ((cs.map fun (n : Nat) => (n : Int)).drop i).take (j - i), M ≤ x) → M = 7 - get2 (dearest os) i j
section
variable (w : World) (p : Program) (loose : List Str) (mean : ExcName → Option Value) (mg mb : Str → Option Value)
theorem law_body (prim : PrimLaw) {h₀ : Heap} {L fa : Addr} {cd : Value} {s : Shared} {Q : Flow → Shared → Prop} {E : Value → Shared → Prop} {m : Str → Option Value} {A₀ : Around} {base : Heap} {outer : List Env} {dp un : Nat} {gd : Option (List Code)} (B : Below A₀ base outer h₀) (hpre : CodeHd base 213 209) (hdp : dp + 30 < recursionLimit) (hun : un + 120 < cLine) (hE : PassesOwn (model Pm w) (lawA dp un gd outer L fa cd) (lawEnv L fa cd) E) (X : (K w.params).In h₀) (T : Top p loose mean mg mb h₀)
    {sc : Addr} {vs : List Value} {ns : List Int} (hsc : h₀.IsList sc vs.toArray) (hI : IntsAre vs ns) (hlen : vs.length ≤ 63) {o1 o2 o3 o4 o5 : Obj} (d1 : o1.data = .cell (some (.ref sc))) (d2 : o2.data = .cell none) (d3 : o3.data = .cell none) (d4 : o4.data = .cell none) (d5 : o5.data = .cell none)
    (F : Fr h₀ L s.heap m) (N : News h₀ L s.heap [(L + 5, o5), (L + 4, o4), (L + 3, o3), (L + 2, o2), (L + 1, o1), (209, tabObj #[])]) (hTB : @LT.lt Nat _ 209 L)
    (ret : ∀ h' tk' m' tps news', Fr h₀ L h' m' → News h₀ L h' ((209, tabObj tps) :: news') → Q (.ret (.bool true)) { s with heap := h', toks := tk' }) :
    wpAny (model Pm w) (lawA dp un gd outer L fa cd) (execs f23_body (lawEnv L fa cd)) Q E s := by
  rw [law_stmts]
  refine execs_app [ls0, ls1] ?_
  refine seg1 w p loose mean mg mb B hpre hdp hun X T hsc hI hlen d1 d2 d3 F N hTB ?_
  intro h' tk' m1 Ml ys nums o3' hn hb hI1 d3' F N hne
  (try dsimp only)
  refine wpAny_execs_cons ?_
  refine seg2 w p loose mean mg mb B hpre hdp hun X T d3' d4 hn hb hI1 hne hTB F N ?_
  intro h' tk' m2 Nl zs o4' hS d4' F N hne2
  (try dsimp only)
  refine execs_app [ls3, ls4] ?_
  refine seg3 w p loose mean mg mb B hpre hdp hun X T d3' d4' hn hb hI1 hS F N ?_
  intro h' tk' m3 sz ts tt z2 z4 hHas F N
  (try dsimp only)
  refine wpAny_execs_cons ?_
  have hfl := spells_flat nums
  refine seg4 w p loose mean mg mb B hpre hdp hun X T (by (walk_at "O")) d5 hTB hne hne2 (toFm F _ hHas) N ?_
  intro h' tk' q tl pn ss sn tps o5' d5' hss ok F N
  (try dsimp only)
  obtain ⟨n, nums', rfl⟩ : ∃ n nums', nums = n :: nums' := by
    cases nums with
    | nil => cases hn
    | cons a b => exact ⟨a, b, rfl⟩
  have hn4 : nums'.length = 4 := by simpa using hn
  obtain ⟨LN, hLN⟩ : ∃ LN : Int, LN = 1 + ((spells (n :: nums')).flatten.count 10 : Nat) := ⟨_, rfl⟩
  have hcnt : ((spells (n :: nums')).flatten ++ [101, 110, 100]).count 10 = (spells (n :: nums')).flatten.count 10 := by rw [List.count_append]; rfl
  have hcl : (spells (n :: nums')).flatten.count 10 ≤ 100 := Nat.le_trans List.count_le_length (by (walk_at "O"))
  have e1 : (1 : Int) = LN - (((spells (n :: nums')).flatten ++ [101, 110, 100]).count 10 : Nat) := by rw [hLN, hcnt]; (walk_at "O")
  rw [e1] at N
  refine execs_app [ls6, ls7] ?_
  refine seg5 w p loose mean mg mb B hpre hdp hun X T d5' hss ⟨[], (fun c hc => nomatch hc), rfl⟩ (by rw [List.length_append]; show _ + 3 ≤ _; (walk_at "O")) (by rw [hcnt, hLN]; (walk_at "O")) ok F N ?_
  intro h' tk' tl pn ss sn cs5 tw Ol Cl m5 hss hA hl5 hc5 ok hHas hOC hlt F N
  (try dsimp only)
  refine wpAny_execs_cons ?_
  refine seg6 w p loose mean mg mb B hpre hdp hun hE X T d5' hn4 hss hA hl5 ⟨hc5, by rw [hLN]; (walk_at "O")⟩ ok (toFm F _ hHas) N ?_
  intro h' tk' tl pn ss sn cs6 m6 ps hss hA hl6 hc6 hps hHas F N
  (try dsimp only)
  refine wpAny_execs_cons ?_
  have hnk : ∀ m ∈ nameOf n :: nums'.map nameOf, NameOk m := fun m hm => by
    have hm' : m ∈ (n :: nums').map nameOf := hm
    obtain ⟨k, _, rfl⟩ := List.mem_map.mp hm'
    exact ⟨by rw [nameOf_len]; (walk_at "O"), fun c hc => name_chr hc⟩
  have hrun := run_start hnk
  have hwa : WAre sz ps ((nums'.map nameOf).map fun m => (0, m)) := wAre_new hps fun k hk => hnk _ (.tail _ (List.mem_map_of_mem hk))
  refine seg7 w p loose mean mg mb B hpre hdp hun hE X T d3' d5' hn hb hI1 (by rw [List.length_cons, List.length_map, hn4]) hrun hwa (.cons _ _ .nil) .nil z2 z4 hOC hlt ok (toFm F _ hHas) N ?_
  intro h' tk' pn ovs oc cvs cc m7 os cs hR ho5 hO hC hHas F N
  (try dsimp only)
  have hperm := hR.perm
  rw [List.map_nil, List.append_nil] at hperm
  have hcs : cs.length = 4 := by have := hR.lenO; (walk_at "O")
  have eN : nameOf n :: nums'.map nameOf = (n :: nums').map nameOf := rfl
  refine wpAny_execs_cons ?_
  refine seg8 w p loose mean mg mb B hpre hdp hun hE X T d4' ho5 (by rw [eN, List.length_map, hn]) hperm hR.first hO (by rw [eN, List.map_map]; exact hS) (toFm F _ hHas) N ?_
  intro h' tk' F N
  (try dsimp only)
  refine execs_app [ls11, ls12] ?_
  refine seg9 w p loose mean mg mb B hpre hdp hun hE X T ho5 (fun x hx => (hR.os_ok x hx).len.2) hO hC (by rw [List.length_map, hcs]) (prim _ os cs hR ho5) F N ?_
  intro h' tk' m9 hHas F N
  (try dsimp only)
  have ok9 := ok.sub (news' := [(209, tabObj tps), (Nl, lst zs), (Ml, lst ys), (L + 5, o5'), (L + 4, o4'), (L + 3, o3')]) fun p hp => ⟨p, .tail _ (.tail _ hp), rfl⟩
  refine seg10 w p loose mean mg mb B hpre hdp hun hE X T d5' hss hA hl6 ⟨hc6, by rw [hLN]; (walk_at "O")⟩ hLN (by (walk_at "O")) ok9 (toFm F _ hHas) N ?_
  intro h' tk' m10 news' F N
  exact ret _ _ _ _ _ F N
end
end Uc
end
section
namespace Uc
noncomputable def st23 : Stmt := by
  refine (fun (_ : PySem.Challenge.pw_uc0057_03.main.body[23]? = some (.FunctionDef ?qn ?qa ?qb ?qd ?qr ?qt ?qs ?qv ?qc ?qp)) => .FunctionDef ?qn ?qa ?qb ?qd ?qr ?qt ?qs ?qv ?qc ?qp) ?qh
  exact rfl
noncomputable def qv : Program := { PySem.Challenge.pw_uc0057_03 with main := { PySem.Challenge.pw_uc0057_03.main with body := [st23] } }
noncomputable def qLoose : List Str := [Str.ofString "_wall", Str.ofString "_MAX_STRING_SIZE", Str.ofString "_MOVE_COST", Str.ofString "_CASE_COST", Str.ofString "_substitution_cost", Str.ofString "_levenshtein_distance", Str.ofString "_netrclex", Str.ofString "b1_set", Str.ofString "in_table_b1", Str.ofString "b3_exceptions", Str.ofString "map_table_b3", Str.ofString "Whitespace", Str.ofString "_law_lexer", Str.ofString "_law_spelled", Str.ofString "_law_kept", Str.ofString "_law_lead", Str.ofString "_law_far", Str.ofString "_law_dearest"]
noncomputable abbrev rowC := PySem.Challenge.rw_uc0057_03.row
noncomputable def hook : Hook := kmHook K Kas (fun _ => by kernel_rfl) [209]
theorem lawNews {h₀ h : Heap} {L : Addr} {o1 o2 o3 o4 o5 T : Obj} (N : News h₀ L h [(L + 1 + 1 + 1 + 1 + 1, o5), (L + 1 + 1 + 1 + 1, o4), (L + 1 + 1 + 1, o3), (L + 1 + 1, o2), (L + 1, o1), (209, T)]) : News h₀ L h [(L + 5, o5), (L + 4, o4), (L + 3, o3), (L + 2, o2), (L + 1, o1), (209, T)] := N
theorem look2 {a b : Bool} (x : a = true) (y : b = true) : (a && b) = true := by rw [x, y]; rfl
theorem wS : OpenLaw.wellSaid PySem.Challenge.rw_uc0057_03 = true := by
  unfold OpenLaw.wellSaid OpenRow.wellSaid OpenRow.partSaid looksOpen
  repeat' (with_reducible refine look2 ?_ ?_)
  all_goals decide +kernel
theorem head_of (prim : PrimLaw) (hl : LeftO PySem.Challenge.pw_uc0057_03 qv qLoose (fun s => xlAt qv [] s && recOk (RowW.records rowC.toRowW) s) hook.obs hook.val 40000) : PySem.Challenge.rw_uc0057_03.Holds := by
  w_on
  refine holds_law wS fun said => ?_
  refine holds_open (q := qv) (loose := qLoose) (Xt := fun s => xlAt qv [] s && recOk (RowW.records rowC.toRowW) s) (XP := XL qv []) (Yf := hook.obs) (Ya := hook.val) (YP := hook.says) (N := 40000) hl hook.of hook.keeps (fun s e => xl_of s (Bool.and_eq_true_iff.mp e).1) XL.keeps (by rfl) (by rfl) (by rfl) (fun s e => recFacts_of (Bool.and_eq_true_iff.mp e).2) (by rfl) (by first | assumption | decide +kernel) (by decide +kernel) ⟨rfl, rfl, rfl, rfl, rfl, by decide +kernel⟩ ?hw ?hc
  case hw => w_witness2
  case hc =>
    unfold hook
    k_fill
    intro w s₀ s₁ mg mb G Y fa o pm cd doc dV kV ho hd hcd hD hmg hg args vals as hpre hlay hrd hwl hlo
    have KX := km_in_of Y
    km_tabs Y
    have X := (Ground.X G).1
    have V := (Ground.X G).2
    refine Ground.open G ?_
    intro T B D TE TW
    try (refine guard_noD D (by decide +kernel) ?_; clear D)
    have hK9 : codeHdIn (K w.params) 213 209 = true := by kernel_rfl
    have hT9 : TabsAt ([(213, 209)] : List (Addr × Addr)) _ := List.forall_mem_cons.mpr ⟨⟨codeHd_of_K (c := 213) (P := 209) KX hK9, hT8 209 (by k_mem)⟩, fun _ h => nomatch h⟩
    clear hmg
    wrow_args hpre hlay hrd hwl hlo
    refine enter_call ?_
    w_top on
    kn_posts
    w_call any ho hd hcd hD T F
    clear hd
    kn_ghosts F T
    k_drop
    clear hl Y ho hcd hT8 X V B TE TW hK9 hT9
    rename IntsAre _ _ => hI1
    rename Heap.IsList (ghostOf _ _) _ _ => hsc
    rename CodeHd _ _ _ => hcd1
    rename Below _ _ [] _ => B1
    rename Frag.In _ (ghostOf _ _) => X1
    rename Top _ _ _ _ _ (ghostOf _ _) => T1
    rename News _ _ _ _ => N1
    rename Fr _ _ _ _ => F1
    rename (_ < Array.size _) => l209
    have hlen := hI1.length
    show wpAny (model Pm w) (lawA _ _ _ [] _ fa cd) (execs f23_body (lawEnv s₁.heap.objs.size fa cd)) _ _ _
    refine law_body w _ _ _ _ _ prim B1 hcd1 ?hdp ?hun ?hE X1 T1 hsc hI1 ?len ?d1 ?d2 ?d3 ?d4 ?d5 F1 (lawNews N1) l209 ?ret
    case hdp => decide
    case hun => decide
    case hE => passes_own
    case len => omega
    case d1 => assumption
    case d2 => assumption
    case d3 => assumption
    case d4 => assumption
    case d5 => assumption
    case ret =>
      intro h' tk' m' tps news' F N
      refine ⟨?_, GrownAt.of N (.head _), trivial⟩
      refine ⟨.inl ⟨.bool true, .bool true, [], rfl, fun _ => rfl, .bool _, by first | rfl | wrow_post, fun _ => ⟨List.nodup_nil, fun _ h => (nomatch h)⟩⟩, F.keep, rfl, hg⟩
end Uc
end
section
namespace Uc
/-! the plain table is symmetric -/
noncomputable def edR (c : Nat) (z : Int) (f : List Nat → Int) : List Nat → Int
  | [] => z
  | d :: y => min (min (turned c d + f y) (2 + f (d :: y))) (2 + edR c z f y)
noncomputable def edD : List Nat → List Nat → Int
  | [] => fun y => 2 * (y.length : Int)
  | c :: x => edR c (2 * ((x.length : Int) + 1)) (edD x)
theorem edD_nil (x : List Nat) : edD x [] = 2 * (x.length : Int) := by cases x <;> rfl
theorem edD_cons (c d : Nat) (x y : List Nat) : edD (c :: x) (d :: y) = min (min (turned c d + edD x y) (2 + edD x (d :: y))) (2 + edD (c :: x) y) := rfl
noncomputable def rowL (x : List Nat) : List Nat → List Int
  | [] => [edD x []]
  | d :: y => edD x (d :: y) :: rowL x y
theorem rowL_head (x y : List Nat) : (rowL x y).headD 0 = edD x y := by cases y <;> rfl
theorem rowL_tail (x : List Nat) (d : Nat) (y : List Nat) : (rowL x (d :: y)).tail = rowL x y := rfl
theorem farRow_L (c : Nat) (x : List Nat) : ∀ y, farRow c y (rowL x y) = rowL (c :: x) y
  | [] => by
    show [edD x [] + 2] = [edD (c :: x) []]
    rw [edD_nil, edD_nil, List.length_cons]
    congr 1
  | d :: y => by
    have ih := farRow_L c x y
    show min (min (turned c d + (rowL x (d :: y)).tail.headD 0) (2 + (rowL x (d :: y)).headD 0)) (2 + (farRow c y (rowL x (d :: y)).tail).headD 0) :: farRow c y (rowL x (d :: y)).tail = edD (c :: x) (d :: y) :: rowL (c :: x) y
    rw [rowL_tail, ih, rowL_head, rowL_head, rowL_head, edD_cons]
theorem row0_L : ∀ y : List Nat, row0F y = rowL [] y
  | [] => by unfold row0F; rw [rowL, edD_nil]; rfl
  | d :: y => by
    have ih := row0_L y
    unfold row0F at ih ⊢
    rw [List.length_cons, List.range_succ_eq_map, List.map_cons, rowL, show edD [] (d :: y) = 2 * (((d :: y).length : Nat) : Int) from rfl, List.length_cons]
    congr 1
    rw [List.map_map, ← ih]
    apply List.map_congr_left
    intro k _
    show 2 * (((y.length + 1 : Nat) : Int) - ((k + 1 : Nat) : Int)) = _
    (walk_at "O")
theorem farFold_L (y : List Nat) : ∀ x : List Nat, farFold y x.reverse (row0F y) = rowL x y
  | [] => row0_L y
  | c :: x => by
    rw [List.reverse_cons]
    unfold farFold
    rw [List.foldl_append]
    have ih := farFold_L y x
    unfold farFold at ih
    rw [ih]
    exact farRow_L c x y
theorem farOf_D (x y : List Nat) : farOf x y = edD x y := by unfold farOf; rw [farFold_L, rowL_head]
theorem turned_comm (c d : Nat) : turned c d = turned d c := by
  unfold turned
  by_cases h : c = d
  · rw [if_pos h, if_pos h.symm]
  · rw [if_neg h, if_neg (Ne.symm h)]
    by_cases h2 : Txt.lower ⟨#[c]⟩ = Txt.lower ⟨#[d]⟩
    · rw [if_pos h2, if_pos h2.symm]
    · rw [if_neg h2, if_neg (Ne.symm h2)]
theorem edD_comm : ∀ x y : List Nat, edD x y = edD y x := fun x => by
  induction x with
  | nil => exact fun y => (edD_nil y).symm
  | cons c x ih =>
    intro y
    induction y with
    | nil => exact edD_nil _
    | cons d y ih2 =>
      rw [edD_cons, edD_cons, turned_comm c d, ih y, ih (d :: y), ih2]
      rw [Int.min_assoc, Int.min_comm (2 + _) (2 + _), ← Int.min_assoc]
theorem far_comm (x y : List Nat) : farOf x y = farOf y x := by rw [farOf_D, farOf_D, edD_comm x y]
/-! the table of dearest steps, seen at one threshold -/
noncomputable def thr (t : Int) (M : List (List Int)) : List (List Bool) := M.map fun r => r.map fun x => decide (x ≤ t)
noncomputable def get2B (z : Bool) (B : List (List Bool)) (i j : Nat) : Bool := (B.getD i []).getD j z
noncomputable def set2B (B : List (List Bool)) (i j : Nat) (x : Bool) : List (List Bool) := B.set i ((B.getD i []).set j x)
noncomputable def setSymB (B : List (List Bool)) (i j : Nat) (x : Bool) : List (List Bool) := set2B (set2B B i j x) j i x
noncomputable def fillRowB (b : Nat → Nat → Bool) (B : List (List Bool)) (i : Nat) : List (List Bool) := (List.range i).foldl (fun B j => setSymB B i j (b i j)) B
noncomputable def fillB (b : Nat → Nat → Bool) (B : List (List Bool)) : List (List Bool) := (List.range 5).foldl (fillRowB b) B
noncomputable def relaxRowB (z : Bool) (m : Nat) (B : List (List Bool)) (i : Nat) : List (List Bool) := (List.range i).foldl (fun B j => setSymB B i j (get2B z B i j || (get2B z B i m && get2B z B m j))) B
noncomputable def relaxB (z : Bool) (B : List (List Bool)) (m : Nat) : List (List Bool) := (List.range 5).foldl (relaxRowB z m) B
noncomputable def closeB (z : Bool) (B : List (List Bool)) : List (List Bool) := (List.range 5).foldl (relaxB z) B
theorem getD_mapB {α β : Type} (f : α → β) (l : List α) (i : Nat) (d : α) : (l.map f).getD i (f d) = f (l.getD i d) := by
  rw [List.getD_eq_getElem?_getD, List.getD_eq_getElem?_getD, List.getElem?_map]
  cases l[i]? <;> rfl
theorem thr_row (t : Int) (M : List (List Int)) (i : Nat) : (thr t M).getD i [] = (M.getD i []).map fun x => decide (x ≤ t) := getD_mapB (fun r : List Int => r.map fun x => decide (x ≤ t)) M i []
theorem thr_set2 (t : Int) (M : List (List Int)) (i j : Nat) (x : Int) : thr t (set2 M i j x) = set2B (thr t M) i j (decide (x ≤ t)) := by
  unfold set2 set2B
  rw [thr_row]
  unfold thr
  rw [List.map_set, List.map_set]
theorem thr_get2 (t : Int) (M : List (List Int)) (i j : Nat) : get2B (decide ((0 : Int) ≤ t)) (thr t M) i j = decide (get2 M i j ≤ t) := by
  unfold get2B get2
  rw [thr_row, getD_mapB (fun x : Int => decide (x ≤ t))]
theorem thr_sym (t : Int) (M : List (List Int)) (i j : Nat) (x : Int) : thr t (setSym M i j x) = setSymB (thr t M) i j (decide (x ≤ t)) := by
  unfold setSym setSymB
  rw [thr_set2, thr_set2]
theorem thr_fold {g : List (List Int) → Nat → List (List Int)} {gB : List (List Bool) → Nat → List (List Bool)} {t : Int} (h : ∀ M i, thr t (g M i) = gB (thr t M) i) : ∀ (l : List Nat) (M : List (List Int)), thr t (l.foldl g M) = l.foldl gB (thr t M)
  | [], _ => rfl
  | i :: l, M => by rw [List.foldl_cons, List.foldl_cons, ← h]; exact thr_fold h l _
theorem thr_dearest (t : Int) (os : List (List Nat)) : thr t (dearest os) = closeB (decide ((0 : Int) ≤ t)) (fillB (fun i j => decide (farOf (os.getD i []) (os.getD j []) ≤ t)) (List.replicate 5 (List.replicate 5 (decide ((0 : Int) ≤ t))))) := by
  unfold dearest closeB
  rw [thr_fold (gB := relaxB (decide ((0 : Int) ≤ t)))]
  · refine congrArg (fun B => (List.range 5).foldl (relaxB (decide ((0 : Int) ≤ t))) B) ?_
    unfold fill fillB
    rw [thr_fold (gB := fillRowB fun i j => decide (farOf (os.getD i []) (os.getD j []) ≤ t))]
    · rfl
    · intro M i
      unfold fillRow fillRowB
      exact thr_fold (fun M j => thr_sym t M i j _) _ _
  · intro M m
    unfold relax relaxB
    refine thr_fold (fun M i => ?_) _ _
    unfold relaxRow relaxRowB
    refine thr_fold (fun M j => ?_) _ _
    rw [thr_sym, thr_get2, thr_get2, thr_get2]
    refine congrArg (setSymB (thr t M) i j) ?_
    generalize get2 M i j = a
    generalize get2 M i m = b
    generalize get2 M m j = c
    by_cases h1 : a ≤ t <;> by_cases h2 : b ≤ t <;> by_cases h3 : c ≤ t <;> simp only [h1, h2, h3, decide_true, decide_false, Bool.true_or, Bool.false_or, Bool.and_true, Bool.and_false, Bool.true_and, Bool.false_and] <;> simp <;> (walk_at "O")
noncomputable def matS (z a10 a20 a21 a30 a31 a32 a40 a41 a42 a43 : Bool) : List (List Bool) := [[z, a10, a20, a30, a40], [a10, z, a21, a31, a41], [a20, a21, z, a32, a42], [a30, a31, a32, z, a43], [a40, a41, a42, a43, z]]
theorem absorb1 (x z : Bool) : (x || (x && z)) = x := by cases x <;> cases z <;> rfl
theorem absorb2 (x z : Bool) : (x || (z && x)) = x := by cases x <;> cases z <;> rfl
theorem stage0 (z a10 a20 a21 a30 a31 a32 a40 a41 a42 a43 : Bool) : relaxB z (matS z a10 a20 a21 a30 a31 a32 a40 a41 a42 a43) 0 = matS z a10 a20 (a21 || (a20 && a10)) a30 (a31 || (a30 && a10)) (a32 || (a30 && a20)) a40 (a41 || (a40 && a10)) (a42 || (a40 && a20)) (a43 || (a40 && a30)) := by
  have h : relaxB z (matS z a10 a20 a21 a30 a31 a32 a40 a41 a42 a43) 0 = [[z, (a10 || (a10 && z)), (a20 || (a20 && z)), (a30 || (a30 && z)), (a40 || (a40 && z))], [(a10 || (a10 && z)), z, (a21 || ((a20 || (a20 && z)) && (a10 || (a10 && z)))), (a31 || ((a30 || (a30 && z)) && (a10 || (a10 && z)))), (a41 || ((a40 || (a40 && z)) && (a10 || (a10 && z))))], [(a20 || (a20 && z)), (a21 || ((a20 || (a20 && z)) && (a10 || (a10 && z)))), z, (a32 || ((a30 || (a30 && z)) && (a20 || (a20 && z)))), (a42 || ((a40 || (a40 && z)) && (a20 || (a20 && z))))], [(a30 || (a30 && z)), (a31 || ((a30 || (a30 && z)) && (a10 || (a10 && z)))), (a32 || ((a30 || (a30 && z)) && (a20 || (a20 && z)))), z, (a43 || ((a40 || (a40 && z)) && (a30 || (a30 && z))))], [(a40 || (a40 && z)), (a41 || ((a40 || (a40 && z)) && (a10 || (a10 && z)))), (a42 || ((a40 || (a40 && z)) && (a20 || (a20 && z)))), (a43 || ((a40 || (a40 && z)) && (a30 || (a30 && z)))), z]] := by kernel_rfl
  rw [h]
  simp only [absorb1, absorb2, matS]
theorem stage1 (z a10 a20 a21 a30 a31 a32 a40 a41 a42 a43 : Bool) : relaxB z (matS z a10 a20 a21 a30 a31 a32 a40 a41 a42 a43) 1 = matS z a10 (a20 || (a21 && a10)) a21 (a30 || (a31 && a10)) a31 (a32 || (a31 && a21)) (a40 || (a41 && a10)) a41 (a42 || (a41 && a21)) (a43 || (a41 && a31)) := by
  have h : relaxB z (matS z a10 a20 a21 a30 a31 a32 a40 a41 a42 a43) 1 = [[z, (a10 || (z && a10)), (a20 || (a21 && (a10 || (z && a10)))), (a30 || (a31 && (a10 || (z && a10)))), (a40 || (a41 && (a10 || (z && a10))))], [(a10 || (z && a10)), z, (a21 || (a21 && z)), (a31 || (a31 && z)), (a41 || (a41 && z))], [(a20 || (a21 && (a10 || (z && a10)))), (a21 || (a21 && z)), z, (a32 || ((a31 || (a31 && z)) && (a21 || (a21 && z)))), (a42 || ((a41 || (a41 && z)) && (a21 || (a21 && z))))], [(a30 || (a31 && (a10 || (z && a10)))), (a31 || (a31 && z)), (a32 || ((a31 || (a31 && z)) && (a21 || (a21 && z)))), z, (a43 || ((a41 || (a41 && z)) && (a31 || (a31 && z))))], [(a40 || (a41 && (a10 || (z && a10)))), (a41 || (a41 && z)), (a42 || ((a41 || (a41 && z)) && (a21 || (a21 && z)))), (a43 || ((a41 || (a41 && z)) && (a31 || (a31 && z)))), z]] := by kernel_rfl
  rw [h]
  simp only [absorb1, absorb2, matS]
theorem stage2 (z a10 a20 a21 a30 a31 a32 a40 a41 a42 a43 : Bool) : relaxB z (matS z a10 a20 a21 a30 a31 a32 a40 a41 a42 a43) 2 = matS z (a10 || (a21 && a20)) a20 a21 (a30 || (a32 && a20)) (a31 || (a32 && a21)) a32 (a40 || (a42 && a20)) (a41 || (a42 && a21)) a42 (a43 || (a42 && a32)) := by
  have h : relaxB z (matS z a10 a20 a21 a30 a31 a32 a40 a41 a42 a43) 2 = [[z, (a10 || (a21 && a20)), (a20 || (z && a20)), (a30 || (a32 && (a20 || (z && a20)))), (a40 || (a42 && (a20 || (z && a20))))], [(a10 || (a21 && a20)), z, (a21 || (z && a21)), (a31 || (a32 && (a21 || (z && a21)))), (a41 || (a42 && (a21 || (z && a21))))], [(a20 || (z && a20)), (a21 || (z && a21)), z, (a32 || (a32 && z)), (a42 || (a42 && z))], [(a30 || (a32 && (a20 || (z && a20)))), (a31 || (a32 && (a21 || (z && a21)))), (a32 || (a32 && z)), z, (a43 || ((a42 || (a42 && z)) && (a32 || (a32 && z))))], [(a40 || (a42 && (a20 || (z && a20)))), (a41 || (a42 && (a21 || (z && a21)))), (a42 || (a42 && z)), (a43 || ((a42 || (a42 && z)) && (a32 || (a32 && z)))), z]] := by kernel_rfl
  rw [h]
  simp only [absorb1, absorb2, matS]
theorem stage3 (z a10 a20 a21 a30 a31 a32 a40 a41 a42 a43 : Bool) : relaxB z (matS z a10 a20 a21 a30 a31 a32 a40 a41 a42 a43) 3 = matS z (a10 || (a31 && a30)) (a20 || (a32 && a30)) (a21 || (a32 && a31)) a30 a31 a32 (a40 || (a43 && a30)) (a41 || (a43 && a31)) (a42 || (a43 && a32)) a43 := by
  have h : relaxB z (matS z a10 a20 a21 a30 a31 a32 a40 a41 a42 a43) 3 = [[z, (a10 || (a31 && a30)), (a20 || (a32 && a30)), (a30 || (z && a30)), (a40 || (a43 && (a30 || (z && a30))))], [(a10 || (a31 && a30)), z, (a21 || (a32 && a31)), (a31 || (z && a31)), (a41 || (a43 && (a31 || (z && a31))))], [(a20 || (a32 && a30)), (a21 || (a32 && a31)), z, (a32 || (z && a32)), (a42 || (a43 && (a32 || (z && a32))))], [(a30 || (z && a30)), (a31 || (z && a31)), (a32 || (z && a32)), z, (a43 || (a43 && z))], [(a40 || (a43 && (a30 || (z && a30)))), (a41 || (a43 && (a31 || (z && a31)))), (a42 || (a43 && (a32 || (z && a32)))), (a43 || (a43 && z)), z]] := by kernel_rfl
  rw [h]
  simp only [absorb1, absorb2, matS]
theorem stage4 (z a10 a20 a21 a30 a31 a32 a40 a41 a42 a43 : Bool) : relaxB z (matS z a10 a20 a21 a30 a31 a32 a40 a41 a42 a43) 4 = matS z (a10 || (a41 && a40)) (a20 || (a42 && a40)) (a21 || (a42 && a41)) (a30 || (a43 && a40)) (a31 || (a43 && a41)) (a32 || (a43 && a42)) a40 a41 a42 a43 := by
  have h : relaxB z (matS z a10 a20 a21 a30 a31 a32 a40 a41 a42 a43) 4 = [[z, (a10 || (a41 && a40)), (a20 || (a42 && a40)), (a30 || (a43 && a40)), (a40 || (z && a40))], [(a10 || (a41 && a40)), z, (a21 || (a42 && a41)), (a31 || (a43 && a41)), (a41 || (z && a41))], [(a20 || (a42 && a40)), (a21 || (a42 && a41)), z, (a32 || (a43 && a42)), (a42 || (z && a42))], [(a30 || (a43 && a40)), (a31 || (a43 && a41)), (a32 || (a43 && a42)), z, (a43 || (z && a43))], [(a40 || (z && a40)), (a41 || (z && a41)), (a42 || (z && a42)), (a43 || (z && a43)), z]] := by kernel_rfl
  rw [h]
  simp only [absorb1, absorb2, matS]
noncomputable def MF (z : Bool) (f : Nat → Nat → Bool) : List (List Bool) := matS z (f 1 0) (f 2 0) (f 2 1) (f 3 0) (f 3 1) (f 3 2) (f 4 0) (f 4 1) (f 4 2) (f 4 3)
noncomputable def via (f : Nat → Nat → Bool) (m i j : Nat) : Bool := if i = j ∨ m = i ∨ m = j then f i j else (f i j || (f i m && f m j))
structure Gr (z : Bool) (f : Nat → Nat → Bool) : Prop where
  sym : ∀ i j, f i j = f j i
  diag : ∀ i, f i i = z
theorem via_gr {z : Bool} {f : Nat → Nat → Bool} (h : Gr z f) (m : Nat) : Gr z (via f m) where
  sym := fun i j => by
    unfold via
    rw [h.sym j i, h.sym j m, h.sym m i]
    by_cases h1 : i = j ∨ m = i ∨ m = j
    · rw [if_pos h1, if_pos (by (walk_at "O"))]
    · rw [if_neg h1, if_neg (by (walk_at "O")), Bool.and_comm]
  diag := fun i => by
    unfold via
    rw [if_pos (.inl rfl), h.diag i]
theorem via_up {f : Nat → Nat → Bool} {m i j : Nat} (h : f i j = true) : via f m i j = true := by
  unfold via
  split
  · exact h
  · rw [h]; rfl
noncomputable def Tri (f : Nat → Nat → Bool) (k : Nat) : Prop := ∀ i j, f i k = true → f k j = true → f i j = true
theorem via_tri {f : Nat → Nat → Bool} (h : Gr true f) (m : Nat) : Tri (via f m) m := fun i j h1 h2 => by
  unfold via at h1 h2 ⊢
  rw [if_pos (.inr (.inr rfl))] at h1
  rw [if_pos (.inr (.inl rfl))] at h2
  split
  · rename_i q
    rcases q with rfl | rfl | rfl
    · exact h.diag i
    · exact h2
    · exact h1
  · rw [h1, h2]; simp
theorem via_tri' {f : Nat → Nat → Bool} (h : Gr true f) {k : Nat} (ht : Tri f k) (m : Nat) : Tri (via f m) k := fun i j h1 h2 => by
  by_cases hij : i = j
  · subst hij; exact (via_gr h m).diag i
  have e1 : f i k = true ∨ (f i m = true ∧ f m k = true) := by
    unfold via at h1
    split at h1
    · exact .inl h1
    · simpa using h1
  have e2 : f k j = true ∨ (f k m = true ∧ f m j = true) := by
    unfold via at h2
    split at h2
    · exact .inl h2
    · simpa using h2
  have key : f i j = true ∨ (f i m = true ∧ f m j = true) := by
    rcases e1 with a | ⟨a, b⟩ <;> rcases e2 with c | ⟨c, d⟩
    · exact .inl (ht i j a c)
    · exact .inr ⟨ht i m a c, d⟩
    · exact .inr ⟨a, ht m j b c⟩
    · exact .inr ⟨a, d⟩
  rcases key with a | ⟨a, b⟩
  · exact via_up a
  · unfold via
    split
    · rename_i q
      rcases q with rfl | rfl | rfl
      · exact absurd rfl hij
      · exact b
      · exact a
    · rw [a, b]; simp
noncomputable def Cut (f : Nat → Nat → Bool) (k : Nat) : Prop := ∀ i j, i ≤ k → k < j → f i j = false
theorem via_cut {z : Bool} {f : Nat → Nat → Bool} (h : Gr z f) {k : Nat} (hc : Cut f k) (m : Nat) : Cut (via f m) k := fun i j hi hj => by
  unfold via
  split
  · exact hc i j hi hj
  · rw [hc i j hi hj]
    by_cases hm : m ≤ k
    · rw [hc m j hm hj]; simp
    · rw [h.sym i m, h.sym m i, hc i m hi (by (walk_at "O"))]; rfl
noncomputable def viaAll (f : Nat → Nat → Bool) : Nat → Nat → Bool := via (via (via (via (via f 0) 1) 2) 3) 4
theorem all_gr {z : Bool} {f : Nat → Nat → Bool} (h : Gr z f) : Gr z (viaAll f) := via_gr (via_gr (via_gr (via_gr (via_gr h 0) 1) 2) 3) 4
theorem all_up {f : Nat → Nat → Bool} {i j : Nat} (h : f i j = true) : viaAll f i j = true := via_up (via_up (via_up (via_up (via_up h))))
theorem all_cut {z : Bool} {f : Nat → Nat → Bool} (h : Gr z f) {k : Nat} (hc : Cut f k) : Cut (viaAll f) k :=
  via_cut (via_gr (via_gr (via_gr (via_gr h 0) 1) 2) 3) (via_cut (via_gr (via_gr (via_gr h 0) 1) 2) (via_cut (via_gr (via_gr h 0) 1) (via_cut (via_gr h 0) (via_cut h hc 0) 1) 2) 3) 4
theorem all_tri {f : Nat → Nat → Bool} (h : Gr true f) {k : Nat} (hk : k < 5) : Tri (viaAll f) k := by
  have g0 := via_gr h 0
  have g1 := via_gr g0 1
  have g2 := via_gr g1 2
  have g3 := via_gr g2 3
  exact lt5 (P := fun k => Tri (viaAll f) k) (via_tri' g3 (via_tri' g2 (via_tri' g1 (via_tri' g0 (via_tri h 0) 1) 2) 3) 4) (via_tri' g3 (via_tri' g2 (via_tri' g1 (via_tri g0 1) 2) 3) 4) (via_tri' g3 (via_tri' g2 (via_tri g1 2) 3) 4) (via_tri' g3 (via_tri g2 3) 4) (via_tri g3 4) hk
theorem via_e {z : Bool} {f : Nat → Nat → Bool} (h : Gr z f) (m i j : Nat) (hij : j < i) : via f m i j = if m = i ∨ m = j then f i j else (f i j || (f (max i m) (min i m) && f (max m j) (min m j))) := by
  have hs := h.sym
  unfold via
  by_cases q : m = i ∨ m = j
  · rw [if_pos q, if_pos (.inr q)]
  · rw [if_neg q, if_neg (by (walk_at "O"))]
    have a1 : f (max i m) (min i m) = f i m := by
      by_cases r : i ≤ m
      · rw [Nat.max_eq_right r, Nat.min_eq_left r, hs]
      · rw [Nat.max_eq_left (by (walk_at "O")), Nat.min_eq_right (by (walk_at "O"))]
    have a2 : f (max m j) (min m j) = f m j := by
      by_cases r : m ≤ j
      · rw [Nat.max_eq_right r, Nat.min_eq_left r, hs]
      · rw [Nat.max_eq_left (by (walk_at "O")), Nat.min_eq_right (by (walk_at "O"))]
    rw [a1, a2]
theorem relax_MF0 {z : Bool} {f : Nat → Nat → Bool} (h : Gr z f) : relaxB z (MF z f) 0 = MF z (via f 0) := by
  have hs := h.sym
  unfold MF
  rw [stage0]
  rw [via_e h 0 1 0 (by decide), via_e h 0 2 0 (by decide), via_e h 0 2 1 (by decide), via_e h 0 3 0 (by decide), via_e h 0 3 1 (by decide), via_e h 0 3 2 (by decide), via_e h 0 4 0 (by decide), via_e h 0 4 1 (by decide), via_e h 0 4 2 (by decide), via_e h 0 4 3 (by decide)]
  rfl
theorem relax_MF1 {z : Bool} {f : Nat → Nat → Bool} (h : Gr z f) : relaxB z (MF z f) 1 = MF z (via f 1) := by
  have hs := h.sym
  unfold MF
  rw [stage1]
  rw [via_e h 1 1 0 (by decide), via_e h 1 2 0 (by decide), via_e h 1 2 1 (by decide), via_e h 1 3 0 (by decide), via_e h 1 3 1 (by decide), via_e h 1 3 2 (by decide), via_e h 1 4 0 (by decide), via_e h 1 4 1 (by decide), via_e h 1 4 2 (by decide), via_e h 1 4 3 (by decide)]
  rfl
theorem relax_MF2 {z : Bool} {f : Nat → Nat → Bool} (h : Gr z f) : relaxB z (MF z f) 2 = MF z (via f 2) := by
  have hs := h.sym
  unfold MF
  rw [stage2]
  rw [via_e h 2 1 0 (by decide), via_e h 2 2 0 (by decide), via_e h 2 2 1 (by decide), via_e h 2 3 0 (by decide), via_e h 2 3 1 (by decide), via_e h 2 3 2 (by decide), via_e h 2 4 0 (by decide), via_e h 2 4 1 (by decide), via_e h 2 4 2 (by decide), via_e h 2 4 3 (by decide)]
  rfl
theorem relax_MF3 {z : Bool} {f : Nat → Nat → Bool} (h : Gr z f) : relaxB z (MF z f) 3 = MF z (via f 3) := by
  have hs := h.sym
  unfold MF
  rw [stage3]
  rw [via_e h 3 1 0 (by decide), via_e h 3 2 0 (by decide), via_e h 3 2 1 (by decide), via_e h 3 3 0 (by decide), via_e h 3 3 1 (by decide), via_e h 3 3 2 (by decide), via_e h 3 4 0 (by decide), via_e h 3 4 1 (by decide), via_e h 3 4 2 (by decide), via_e h 3 4 3 (by decide)]
  rfl
theorem relax_MF4 {z : Bool} {f : Nat → Nat → Bool} (h : Gr z f) : relaxB z (MF z f) 4 = MF z (via f 4) := by
  have hs := h.sym
  unfold MF
  rw [stage4]
  rw [via_e h 4 1 0 (by decide), via_e h 4 2 0 (by decide), via_e h 4 2 1 (by decide), via_e h 4 3 0 (by decide), via_e h 4 3 1 (by decide), via_e h 4 3 2 (by decide), via_e h 4 4 0 (by decide), via_e h 4 4 1 (by decide), via_e h 4 4 2 (by decide), via_e h 4 4 3 (by decide)]
  rfl
theorem close_MF {z : Bool} {f : Nat → Nat → Bool} (h : Gr z f) : closeB z (MF z f) = MF z (viaAll f) := by
  have g0 := via_gr h 0
  have g1 := via_gr g0 1
  have g2 := via_gr g1 2
  have g3 := via_gr g2 3
  unfold closeB
  rw [show List.range 5 = [0, 1, 2, 3, 4] from rfl]
  simp only [List.foldl_cons, List.foldl_nil]
  rw [relax_MF0 h, relax_MF1 g0, relax_MF2 g1, relax_MF3 g2, relax_MF4 g3]
  rfl
noncomputable def grOf (z : Bool) (b : Nat → Nat → Bool) (i j : Nat) : Bool := if i = j then z else if 5 ≤ i ∨ 5 ≤ j then false else if j < i then b i j else b j i
theorem fill_MF (z : Bool) (b : Nat → Nat → Bool) : fillB b (List.replicate 5 (List.replicate 5 z)) = MF z (grOf z b) := by kernel_rfl
theorem get_MF (z : Bool) (f : Nat → Nat → Bool) {i j : Nat} (hi : i < 5) (hj : j < i) : get2B z (MF z f) j i = f i j := by
  have hm : ∀ i < 5, ∀ j < i, (i, j) ∈ [(1, 0), (2, 0), (2, 1), (3, 0), (3, 1), (3, 2), (4, 0), (4, 1), (4, 2), (4, 3)] := by decide
  have ha : ∀ p ∈ [(1, 0), (2, 0), (2, 1), (3, 0), (3, 1), (3, 2), (4, 0), (4, 1), (4, 2), (4, 3)], get2B z (MF z f) p.2 p.1 = f p.1 p.2 :=
    allC rfl (allC rfl (allC rfl (allC rfl (allC rfl (allC rfl (allC rfl (allC rfl (allC rfl (allC rfl (fun _ h => nomatch h))))))))))
  exact ha _ (hm i hi j hj)
end Uc
end
section
namespace Uc
theorem grOf_gr (z : Bool) (b : Nat → Nat → Bool) : Gr z (grOf z b) where
  sym := fun i j => by
    by_cases h : i = j
    · rw [h]
    · by_cases h5 : 5 ≤ i ∨ 5 ≤ j
      · have e1 : grOf z b i j = false := by unfold grOf; rw [if_neg h, if_pos h5]
        have e2 : grOf z b j i = false := by unfold grOf; rw [if_neg (Ne.symm h), if_pos h5.symm]
        rw [e1, e2]
      · by_cases hl : j < i
        · have e1 : grOf z b i j = b i j := by unfold grOf; rw [if_neg h, if_neg h5, if_pos hl]
          have e2 : grOf z b j i = b i j := by unfold grOf; rw [if_neg (Ne.symm h), if_neg (fun q => h5 q.symm), if_neg (by (walk_at "O"))]
          rw [e1, e2]
        · have e1 : grOf z b i j = b j i := by unfold grOf; rw [if_neg h, if_neg h5, if_neg hl]
          have e2 : grOf z b j i = b j i := by unfold grOf; rw [if_neg (Ne.symm h), if_neg (fun q => h5 q.symm), if_pos (by (walk_at "O"))]
          rw [e1, e2]
  diag := fun i => by unfold grOf; rw [if_pos rfl]
noncomputable def grT (os : List (List Nat)) (t : Int) : Nat → Nat → Bool := grOf (decide ((0 : Int) ≤ t)) fun i j => decide (farOf (os.getD i []) (os.getD j []) ≤ t)
theorem at_thr (os : List (List Nat)) (t : Int) {i j : Nat} (hij : i < j) (hj : j < 5) : decide (get2 (dearest os) i j ≤ t) = viaAll (grT os t) j i := by
  rw [← thr_get2, thr_dearest, fill_MF, close_MF (grOf_gr _ _), get_MF _ _ hj hij]
  rfl
theorem grT_lt (os : List (List Nat)) (t : Int) {i j : Nat} (hij : i < j) (hj : j < 5) : grT os t j i = decide (farOf (os.getD j []) (os.getD i []) ≤ t) := by
  unfold grT grOf
  rw [if_neg (by (walk_at "O")), if_neg (by (walk_at "O")), if_pos hij]
theorem most_ge {l : List (List Nat)} {u n : List Nat} (h : u ∈ l) : 7 - far u n ≤ mostOf l n := by
  have key : ∀ (l : List (List Nat)) (m : Nat), m ≤ l.foldl (fun m u => max m (7 - far u n)) m ∧ ∀ u ∈ l, 7 - far u n ≤ l.foldl (fun m u => max m (7 - far u n)) m := fun l => by
    induction l with
    | nil => intro m; exact ⟨Nat.le_refl _, fun _ h => nomatch h⟩
    | cons a l ih =>
      intro m
      have := ih (max m (7 - far a n))
      rw [List.foldl_cons]
      refine ⟨by (walk_at "O"), fun v hv => ?_⟩
      rcases List.mem_cons.mp hv with rfl | hv
      · (walk_at "O")
      · exact this.2 v hv
  exact (key l 0).2 u h
theorem most_get {l : List (List Nat)} {n : List Nat} (hl : l ≠ []) : ∃ u ∈ l, mostOf l n = 7 - far u n := by
  have key : ∀ (l : List (List Nat)) (m : Nat), l.foldl (fun m u => max m (7 - far u n)) m = m ∨ ∃ u ∈ l, l.foldl (fun m u => max m (7 - far u n)) m = 7 - far u n := fun l => by
    induction l with
    | nil => intro m; exact .inl rfl
    | cons a l ih =>
      intro m
      rw [List.foldl_cons]
      rcases ih (max m (7 - far a n)) with e | ⟨u, hu, e⟩
      · rw [e]
        by_cases h : 7 - far a n ≤ m
        · exact .inl (by (walk_at "O"))
        · exact .inr ⟨a, .head _, by (walk_at "O")⟩
      · exact .inr ⟨u, .tail _ hu, e⟩
  cases l with
  | nil => exact absurd rfl hl
  | cons a l =>
    rcases key (a :: l) 0 with e | h
    · refine ⟨a, .head _, ?_⟩
      have := most_ge (l := a :: l) (n := n) (.head _)
      unfold mostOf at this ⊢
      (walk_at "O")
    · exact h
theorem getD_mem {l : List (List Nat)} {i : Nat} (h : i < l.length) : l[i]? = some (l.getD i []) := by
  rw [List.getD_eq_getElem?_getD, List.getElem?_eq_getElem h]; rfl
theorem prim : PrimLaw := by
  intro nms os cs hR ho5 i j hij hj M hM hmin
  have hc4 : cs.length = 4 := by have := hR.lenO; (walk_at "O")
  have nok : ∀ a, a < 5 → NameOk (os.getD a []) := fun a ha => hR.os_ok _ (List.mem_of_getElem? (getD_mem (by (walk_at "O"))))
  have fle : ∀ a b, a < 5 → b < 5 → farOf (os.getD a []) (os.getD b []) = (far (os.getD a []) (os.getD b []) : Int) ∧ far (os.getD a []) (os.getD b []) ≤ 6 := fun a b ha hb => far_le (nok a ha) (nok b hb)
  have P1 : ∀ k, k < 4 → ∃ u, u ≤ k ∧ 7 - far (os.getD u []) (os.getD (k + 1) []) = cs.getD k 0 := fun k hk => by
    have h1 := (hR.link k (by (walk_at "O"))).1
    rw [getD_mem (by (walk_at "O") : k + 1 < os.length)] at h1
    have h2 : cs.getD k 0 = mostOf (os.take (k + 1)) (os.getD (k + 1) []) := by
      rw [List.getD_eq_getElem?_getD, h1]; rfl
    obtain ⟨u, hu, e⟩ := most_get (l := os.take (k + 1)) (n := os.getD (k + 1) []) (by
      intro q
      have := congrArg List.length q
      rw [List.length_take, List.length_nil] at this
      (walk_at "O"))
    obtain ⟨v, hv, ev⟩ := List.mem_take_iff_getElem.mp hu
    refine ⟨v, by (walk_at "O"), ?_⟩
    rw [h2, e]
    congr 2
    rw [List.getD_eq_getElem?_getD, List.getElem?_eq_getElem (by (walk_at "O"))]
    exact ev
  have P2 : ∀ k u v, u ≤ k → k < v → v < 5 → 7 - far (os.getD u []) (os.getD v []) ≤ cs.getD k 0 := fun k u v hu hv h5 => by
    have h1 := (hR.link k (by (walk_at "O"))).2.1 (os.getD v []) (by
      refine List.mem_of_getElem? (i := v - (k + 1)) ?_
      rw [List.getElem?_drop, Nat.add_sub_cancel' (show k + 1 ≤ v by (walk_at "O"))]
      exact getD_mem (by (walk_at "O")))
    refine Nat.le_trans (most_ge ?_) h1
    refine List.mem_of_getElem? (i := u) ?_
    rw [List.getElem?_take, if_pos (by (walk_at "O"))]
    exact getD_mem (by (walk_at "O"))
  have cle : ∀ k, k < 4 → cs.getD k 0 ≤ 7 := fun k hk => by
    obtain ⟨u, _, e⟩ := P1 k hk
    (walk_at "O")
  have hsl : ∀ k, i ≤ k → k < j → (((cs.map fun (n : Nat) => (n : Int)).drop i).take (j - i))[k - i]? = some ((cs.getD k 0 : Nat) : Int) := fun k h1 h2 => by
    rw [List.getElem?_take, if_pos (by (walk_at "O")), List.getElem?_drop, show i + (k - i) = k by (walk_at "O"), List.getElem?_map]
    rw [List.getD_eq_getElem?_getD, List.getElem?_eq_getElem (by (walk_at "O") : k < cs.length)]
    rfl
  have hlow : ∀ k, i ≤ k → k < j → M ≤ ((cs.getD k 0 : Nat) : Int) := fun k h1 h2 => hmin _ (List.mem_of_getElem? (hsl k h1 h2))
  obtain ⟨k0, hk1, hk2, hk3⟩ : ∃ k, i ≤ k ∧ k < j ∧ M = ((cs.getD k 0 : Nat) : Int) := by
    obtain ⟨a, ha⟩ := List.getElem?_of_mem hM
    have hal := (List.getElem?_eq_some_iff.mp ha).1
    rw [List.length_take, List.length_drop, List.length_map] at hal
    have := hsl (i + a) (by (walk_at "O")) (by (walk_at "O"))
    rw [show i + a - i = a by (walk_at "O"), ha] at this
    exact ⟨i + a, by (walk_at "O"), by (walk_at "O"), Option.some.inj this⟩
  have hM7 : M ≤ 7 := by rw [hk3]; have := cle k0 (by (walk_at "O")); (walk_at "O")
  have hM0 : 0 ≤ M := by rw [hk3]; (walk_at "O")
  -- not more
  have up : get2 (dearest os) i j ≤ 7 - M := by
    have hz : decide ((0 : Int) ≤ 7 - M) = true := decide_eq_true (by (walk_at "O"))
    have hg : Gr true (grT os (7 - M)) := by
      have := grOf_gr (decide ((0 : Int) ≤ 7 - M)) fun i j => decide (farOf (os.getD i []) (os.getD j []) ≤ 7 - M)
      rw [hz] at this
      unfold grT
      rw [hz]
      exact this
    have claim : ∀ n a b, b ≤ n → a < b → b < 5 → (∀ k, a ≤ k → k < b → M ≤ ((cs.getD k 0 : Nat) : Int)) → viaAll (grT os (7 - M)) b a = true := fun n => by
      induction n with
      | zero => intro a b h1 h2; (walk_at "O")
      | succ n ih =>
        intro a b hb hab hb5 hk
        obtain ⟨u, hu, e⟩ := P1 (b - 1) (by (walk_at "O"))
        rw [show b - 1 + 1 = b by (walk_at "O")] at e
        have hw := hk (b - 1) (by (walk_at "O")) (by (walk_at "O"))
        have hf := fle u b (by (walk_at "O")) hb5
        have hbu : viaAll (grT os (7 - M)) b u = true := by
          refine all_up ?_
          rw [grT_lt os _ (by (walk_at "O") : u < b) hb5, far_comm, hf.1]
          exact decide_eq_true (by (walk_at "O"))
        rcases Nat.lt_trichotomy u a with h | h | h
        · have hau := ih u a (by (walk_at "O")) h (by (walk_at "O")) fun k k1 k2 => by
            have := P2 k u b k1 (by (walk_at "O")) hb5
            (walk_at "O")
          refine all_tri hg (by (walk_at "O") : u < 5) b a hbu ?_
          rw [(all_gr hg).sym]
          exact hau
        · rw [← h]; exact hbu
        · exact all_tri hg (by (walk_at "O") : u < 5) b a hbu (ih a u (by (walk_at "O")) h (by (walk_at "O")) fun k k1 k2 => hk k k1 (by (walk_at "O")))
    have := claim j i j (Nat.le_refl _) hij (by (walk_at "O")) hlow
    rw [← at_thr os _ hij (by (walk_at "O"))] at this
    exact of_decide_eq_true this
  -- not less
  have lo : ¬ get2 (dearest os) i j ≤ 6 - M := by
    have hg := grOf_gr (decide ((0 : Int) ≤ 6 - M)) fun i j => decide (farOf (os.getD i []) (os.getD j []) ≤ 6 - M)
    have hcut : Cut (grT os (6 - M)) k0 := fun a b ha hb => by
      rw [show grT os (6 - M) a b = grT os (6 - M) b a from hg.sym a b]
      by_cases h5 : b < 5
      · rw [grT_lt os _ (by (walk_at "O") : a < b) h5, far_comm]
        have h1 := fle a b (by (walk_at "O")) h5
        have h2 := P2 k0 a b ha hb h5
        rw [h1.1]
        exact decide_eq_false (by (walk_at "O"))
      · unfold grT grOf
        rw [if_neg (by (walk_at "O")), if_pos (by (walk_at "O"))]
    have := all_cut hg hcut i j hk1 hk2
    rw [(all_gr hg).sym] at this
    intro q
    have e := at_thr os (6 - M) hij (by (walk_at "O"))
    rw [decide_eq_true q] at e
    have e2 : viaAll (grT os (6 - M)) j i = false := this
    rw [e2] at e
    cases e
  (walk_at "O")
end Uc
end
section
namespace Uc
noncomputable def hLife (P : Params) : Life := (boot_heap P).life
noncomputable def ha_12 (P : Params) : Obj := ⟨.none, none, (.fields [].toArray), [].toArray⟩
noncomputable def hTa (P : Params) : BT := (.node (boot_o_0 P) (.node (boot_o_1 P) (.node (boot_o_3 P) (.node (boot_o_7 P) .nil .nil) (.node (o11 P) .nil .nil)) (.node (boot_o_5 P) (.node (boot_o_9 P) .nil .nil) (.node (o13 P) .nil .nil))) (.node (boot_o_2 P) (.node (boot_o_4 P) (.node (boot_o_8 P) .nil .nil) (.node (ha_12 P) .nil .nil)) (.node (boot_o_6 P) (.node (boot_o_10 P) .nil .nil) (.node (o14 P) .nil .nil))))
noncomputable def hSa (w : World) (os : OsState) : SharedT := ⟨hTa w.params, 15, hLife w.params, #[], boot_drawn, 187, os⟩
noncomputable def hTb (P : Params) : BT := (.node (boot_o_0 P) (.node (boot_o_1 P) (.node (boot_o_3 P) (.node (boot_o_7 P) .nil .nil) (.node (o11 P) .nil .nil)) (.node (boot_o_5 P) (.node (boot_o_9 P) .nil .nil) (.node (o13 P) .nil .nil))) (.node (boot_o_2 P) (.node (boot_o_4 P) (.node (boot_o_8 P) .nil .nil) (.node (ha_12 P) .nil .nil)) (.node (boot_o_6 P) (.node (boot_o_10 P) .nil .nil) (.node (o14 P) .nil .nil))))
noncomputable def hSb (w : World) (os : OsState) : SharedT := ⟨hTb w.params, 15, hLife w.params, #[], boot_drawn, 187, os⟩
noncomputable def hEnv : Env := { scope := PySem.Challenge.pw_uc0057_03.main.scope, locals := mainNs, globals := mainNs, cells := [], code := (.ref 13), frame := some 14 }
noncomputable def hCode : Code := .body (behindTheImports PySem.Challenge.pw_uc0057_03) hEnv
noncomputable def hAnn : Option Value := (some (.ref 6))
noncomputable def hFp : Pos := ⟨0, 0, 0, 0⟩
noncomputable def h0_3 (P : Params) : Obj := ⟨(.type "dict"), none, (.dict [⟨PyData.keyHash P (Str.ofString "__name__"), (.str (Str.ofString "__name__") 165), (.str (Str.ofString "cpy313.netrc") 230)⟩, ⟨PyData.keyHash P (Str.ofString "__doc__"), (.str (Str.ofString "__doc__") 166), .none⟩, ⟨PyData.keyHash P (Str.ofString "__package__"), (.str (Str.ofString "__package__") 167), .none⟩, ⟨PyData.keyHash P (Str.ofString "__loader__"), (.str (Str.ofString "__loader__") 168), (.builtin "__main__.__loader__#opaque")⟩, ⟨PyData.keyHash P (Str.ofString "__spec__"), (.str (Str.ofString "__spec__") 169), .none⟩, ⟨PyData.keyHash P (Str.ofString "__annotations__"), (.str (Str.ofString "__annotations__") 170), (.ref 6)⟩, ⟨PyData.keyHash P (Str.ofString "__builtins__"), (.str (Str.ofString "__builtins__") 171), (.ref 4)⟩, ⟨PyData.keyHash P (Str.ofString "__file__"), (.str (Str.ofString "__file__") 173), (.str (Str.ofString "/claim/cut.py") 172)⟩, ⟨PyData.keyHash P (Str.ofString "__cached__"), (.str (Str.ofString "__cached__") 174), .none⟩, ⟨PyData.keyHash P (Str.ofString "_wall"), (.str (Str.ofString "_wall") 193), (.ref 21)⟩, ⟨PyData.keyHash P (Str.ofString "_MAX_STRING_SIZE"), (.str (Str.ofString "_MAX_STRING_SIZE") 197), (.int (40) 196)⟩, ⟨PyData.keyHash P (Str.ofString "_MOVE_COST"), (.str (Str.ofString "_MOVE_COST") 199), (.int (2) 198)⟩, ⟨PyData.keyHash P (Str.ofString "_CASE_COST"), (.str (Str.ofString "_CASE_COST") 201), (.int (1) 200)⟩, ⟨PyData.keyHash P (Str.ofString "_substitution_cost"), (.str (Str.ofString "_substitution_cost") 209), (.ref 28)⟩, ⟨PyData.keyHash P (Str.ofString "_levenshtein_distance"), (.str (Str.ofString "_levenshtein_distance") 229), (.ref 35)⟩].toArray 15), [].toArray⟩
noncomputable def h0_12 (P : Params) : Obj := ⟨.none, none, (.fields [(.int (1) 0), (.int (0) 0), (.ref 20), (.int (8) 0), (.int (0) 0), (.ref 27), (.int (14) 0), (.int (0) 0), (.ref 34)].toArray), [].toArray⟩
noncomputable def h0_16 (P : Params) : Obj := ⟨.none, none, (.fields [].toArray), [].toArray⟩
noncomputable def h0_19 (P : Params) : Obj := ⟨.none, none, (.func { name := (Str.ofString "_wall"), qualname := (Str.ofString "_wall"), params := f0_args, body := .stmts f0_body, scope := f0_scope, globals := 0, closure := [], defaults := .none, kwdefaults := .none, doc := .none, pyModule := .none, annotations := none, code := .none, closureTuple := .none, builtins := 0 }), [].toArray⟩
noncomputable def h0_23 (P : Params) : Obj := ⟨.none, none, (.fields [].toArray), [].toArray⟩
noncomputable def h0_26 (P : Params) : Obj := ⟨.none, none, (.func { name := (Str.ofString "_substitution_cost"), qualname := (Str.ofString "_substitution_cost"), params := f5_args, body := .stmts f5_body, scope := f5_scope, globals := 0, closure := [], defaults := .none, kwdefaults := .none, doc := .none, pyModule := .none, annotations := none, code := .none, closureTuple := .none, builtins := 0 }), [].toArray⟩
noncomputable def h0_30 (P : Params) : Obj := ⟨.none, none, (.fields [].toArray), [].toArray⟩
noncomputable def h0_33 (P : Params) : Obj := ⟨.none, none, (.func { name := (Str.ofString "_levenshtein_distance"), qualname := (Str.ofString "_levenshtein_distance"), params := f6_args, body := .stmts f6_body, scope := f6_scope, globals := 0, closure := [], defaults := .none, kwdefaults := .none, doc := .none, pyModule := .none, annotations := none, code := .none, closureTuple := .none, builtins := 0 }), [].toArray⟩
noncomputable def hT0 (P : Params) : BT := (.node (boot_o_0 P) (.node (boot_o_1 P) (.node (h0_3 P) (.node (boot_o_7 P) (.node (o15 P) (.node (o31 P) .nil .nil) .nil) (.node (h0_23 P) .nil .nil)) (.node (o11 P) (.node (h0_19 P) (.node (o35 P) .nil .nil) .nil) (.node (o27 P) .nil .nil))) (.node (boot_o_5 P) (.node (boot_o_9 P) (.node (o17 P) (.node (h0_33 P) .nil .nil) .nil) (.node (o25 P) .nil .nil)) (.node (o13 P) (.node (o21 P) .nil .nil) (.node (o29 P) .nil .nil)))) (.node (boot_o_2 P) (.node (boot_o_4 P) (.node (boot_o_8 P) (.node (h0_16 P) (.node (o32 P) .nil .nil) .nil) (.node (o24 P) .nil .nil)) (.node (h0_12 P) (.node (o20 P) .nil .nil) (.node (o28 P) .nil .nil))) (.node (boot_o_6 P) (.node (boot_o_10 P) (.node (o18 P) (.node (o34 P) .nil .nil) .nil) (.node (h0_26 P) .nil .nil)) (.node (o14 P) (.node (o22 P) .nil .nil) (.node (h0_30 P) .nil .nil)))))
noncomputable def hS0 (w : World) (os : OsState) : SharedT := ⟨hT0 w.params, 36, hLife w.params, #[], boot_drawn, 232, os⟩
noncomputable def hL0 : List Stmt := (PySem.Challenge.pw_uc0057_03.main.body.drop 0).take 8
noncomputable def h1_3 (P : Params) : Obj := ⟨(.type "dict"), none, (.dict [⟨PyData.keyHash P (Str.ofString "__name__"), (.str (Str.ofString "__name__") 165), (.str (Str.ofString "cpy313.netrc") 230)⟩, ⟨PyData.keyHash P (Str.ofString "__doc__"), (.str (Str.ofString "__doc__") 166), .none⟩, ⟨PyData.keyHash P (Str.ofString "__package__"), (.str (Str.ofString "__package__") 167), .none⟩, ⟨PyData.keyHash P (Str.ofString "__loader__"), (.str (Str.ofString "__loader__") 168), (.builtin "__main__.__loader__#opaque")⟩, ⟨PyData.keyHash P (Str.ofString "__spec__"), (.str (Str.ofString "__spec__") 169), .none⟩, ⟨PyData.keyHash P (Str.ofString "__annotations__"), (.str (Str.ofString "__annotations__") 170), (.ref 6)⟩, ⟨PyData.keyHash P (Str.ofString "__builtins__"), (.str (Str.ofString "__builtins__") 171), (.ref 4)⟩, ⟨PyData.keyHash P (Str.ofString "__file__"), (.str (Str.ofString "__file__") 173), (.str (Str.ofString "/claim/cut.py") 172)⟩, ⟨PyData.keyHash P (Str.ofString "__cached__"), (.str (Str.ofString "__cached__") 174), .none⟩, ⟨PyData.keyHash P (Str.ofString "_wall"), (.str (Str.ofString "_wall") 193), (.ref 21)⟩, ⟨PyData.keyHash P (Str.ofString "_MAX_STRING_SIZE"), (.str (Str.ofString "_MAX_STRING_SIZE") 197), (.int (40) 196)⟩, ⟨PyData.keyHash P (Str.ofString "_MOVE_COST"), (.str (Str.ofString "_MOVE_COST") 199), (.int (2) 198)⟩, ⟨PyData.keyHash P (Str.ofString "_CASE_COST"), (.str (Str.ofString "_CASE_COST") 201), (.int (1) 200)⟩, ⟨PyData.keyHash P (Str.ofString "_substitution_cost"), (.str (Str.ofString "_substitution_cost") 209), (.ref 28)⟩, ⟨PyData.keyHash P (Str.ofString "_levenshtein_distance"), (.str (Str.ofString "_levenshtein_distance") 229), (.ref 35)⟩, ⟨PyData.keyHash P (Str.ofString "_netrclex"), (.str (Str.ofString "_netrclex") 289), (.ref 73)⟩].toArray 16), [].toArray⟩
noncomputable def h1_12 (P : Params) : Obj := ⟨.none, none, (.fields [(.int (1) 0), (.int (0) 0), (.ref 20), (.int (8) 0), (.int (0) 0), (.ref 27), (.int (14) 0), (.int (0) 0), (.ref 34), (.int (53) 0), (.int (0) 0), (.ref 41)].toArray), [].toArray⟩
noncomputable def h1_40 (P : Params) : Obj := ⟨.none, none, (.fields [(.int (55) 0), (.int (4) 0), (.ref 48), (.int (61) 0), (.int (4) 0), (.ref 55), (.int (67) 0), (.int (4) 0), (.ref 62), (.int (94) 0), (.int (4) 0), (.ref 69)].toArray), [].toArray⟩
noncomputable def h1_44 (P : Params) : Obj := ⟨.none, none, (.fields [].toArray), [].toArray⟩
noncomputable def h1_47 (P : Params) : Obj := ⟨.none, none, (.func { name := (Str.ofString "__init__"), qualname := (Str.ofString "_netrclex.__init__"), params := f8m0_args, body := .stmts f8m0_body, scope := f8m0_scope, globals := 0, closure := [], defaults := .none, kwdefaults := .none, doc := .none, pyModule := .none, annotations := none, code := .none, closureTuple := .none, builtins := 0 }), [].toArray⟩
noncomputable def h1_51 (P : Params) : Obj := ⟨.none, none, (.fields [].toArray), [].toArray⟩
noncomputable def h1_54 (P : Params) : Obj := ⟨.none, none, (.func { name := (Str.ofString "_read_char"), qualname := (Str.ofString "_netrclex._read_char"), params := f8m1_args, body := .stmts f8m1_body, scope := f8m1_scope, globals := 0, closure := [], defaults := .none, kwdefaults := .none, doc := .none, pyModule := .none, annotations := none, code := .none, closureTuple := .none, builtins := 0 }), [].toArray⟩
noncomputable def h1_58 (P : Params) : Obj := ⟨.none, none, (.fields [].toArray), [].toArray⟩
noncomputable def h1_61 (P : Params) : Obj := ⟨.none, none, (.func { name := (Str.ofString "get_token"), qualname := (Str.ofString "_netrclex.get_token"), params := f8m2_args, body := .stmts f8m2_body, scope := f8m2_scope, globals := 0, closure := [], defaults := .none, kwdefaults := .none, doc := .none, pyModule := .none, annotations := none, code := .none, closureTuple := .none, builtins := 0 }), [].toArray⟩
noncomputable def h1_65 (P : Params) : Obj := ⟨.none, none, (.fields [].toArray), [].toArray⟩
noncomputable def h1_68 (P : Params) : Obj := ⟨.none, none, (.func { name := (Str.ofString "push_token"), qualname := (Str.ofString "_netrclex.push_token"), params := f8m3_args, body := .stmts f8m3_body, scope := f8m3_scope, globals := 0, closure := [], defaults := .none, kwdefaults := .none, doc := .none, pyModule := .none, annotations := none, code := .none, closureTuple := .none, builtins := 0 }), [].toArray⟩
noncomputable def hT1 (P : Params) : BT := (.node (boot_o_0 P) (.node (boot_o_1 P) (.node (h1_3 P) (.node (boot_o_7 P) (.node (o15 P) (.node (o31 P) (.node (o63 P) .nil .nil) .nil) (.node (h1_47 P) .nil .nil)) (.node (h0_23 P) (.node (o39 P) (.node (o71 P) .nil .nil) .nil) (.node (o55 P) .nil .nil))) (.node (o11 P) (.node (h0_19 P) (.node (o35 P) (.node (o67 P) .nil .nil) .nil) (.node (h1_51 P) .nil .nil)) (.node (o27 P) (.node (o43 P) (.node (o75 P) .nil .nil) .nil) (.node (o59 P) .nil .nil)))) (.node (boot_o_5 P) (.node (boot_o_9 P) (.node (o17 P) (.node (h0_33 P) (.node (h1_65 P) .nil .nil) .nil) (.node (o49 P) .nil .nil)) (.node (o25 P) (.node (o41 P) (.node (o73 P) .nil .nil) .nil) (.node (o57 P) .nil .nil))) (.node (o13 P) (.node (o21 P) (.node (o37 P) (.node (o69 P) .nil .nil) .nil) (.node (o53 P) .nil .nil)) (.node (o29 P) (.node (o45 P) (.node (o77 P) .nil .nil) .nil) (.node (h1_61 P) .nil .nil))))) (.node (boot_o_2 P) (.node (boot_o_4 P) (.node (boot_o_8 P) (.node (h0_16 P) (.node (o32 P) (.node (o64 P) .nil .nil) .nil) (.node (o48 P) .nil .nil)) (.node (o24 P) (.node (h1_40 P) (.node (o72 P) .nil .nil) .nil) (.node (o56 P) .nil .nil))) (.node (h1_12 P) (.node (o20 P) (.node (o36 P) (.node (h1_68 P) .nil .nil) .nil) (.node (o52 P) .nil .nil)) (.node (o28 P) (.node (h1_44 P) (.node (o76 P) .nil .nil) .nil) (.node (o60 P) .nil .nil)))) (.node (boot_o_6 P) (.node (boot_o_10 P) (.node (o18 P) (.node (o34 P) (.node (o66 P) .nil .nil) .nil) (.node (o50 P) .nil .nil)) (.node (h0_26 P) (.node (o42 P) (.node (o74 P) .nil .nil) .nil) (.node (h1_58 P) .nil .nil))) (.node (o14 P) (.node (o22 P) (.node (o38 P) (.node (o70 P) .nil .nil) .nil) (.node (h1_54 P) .nil .nil)) (.node (h0_30 P) (.node (o46 P) .nil .nil) (.node (o62 P) .nil .nil))))))
noncomputable def hS1 (w : World) (os : OsState) : SharedT := ⟨hT1 w.params, 78, hLife w.params, #[], boot_drawn, 290, os⟩
noncomputable def hL1 : List Stmt := (PySem.Challenge.pw_uc0057_03.main.body.drop 8).take 1
noncomputable def h2_3 (P : Params) : Obj := ⟨(.type "dict"), none, (.dict [⟨PyData.keyHash P (Str.ofString "__name__"), (.str (Str.ofString "__name__") 165), (.str (Str.ofString "cpy313.stringprep") 290)⟩, ⟨PyData.keyHash P (Str.ofString "__doc__"), (.str (Str.ofString "__doc__") 166), .none⟩, ⟨PyData.keyHash P (Str.ofString "__package__"), (.str (Str.ofString "__package__") 167), .none⟩, ⟨PyData.keyHash P (Str.ofString "__loader__"), (.str (Str.ofString "__loader__") 168), (.builtin "__main__.__loader__#opaque")⟩, ⟨PyData.keyHash P (Str.ofString "__spec__"), (.str (Str.ofString "__spec__") 169), .none⟩, ⟨PyData.keyHash P (Str.ofString "__annotations__"), (.str (Str.ofString "__annotations__") 170), (.ref 6)⟩, ⟨PyData.keyHash P (Str.ofString "__builtins__"), (.str (Str.ofString "__builtins__") 171), (.ref 4)⟩, ⟨PyData.keyHash P (Str.ofString "__file__"), (.str (Str.ofString "__file__") 173), (.str (Str.ofString "/claim/cut.py") 172)⟩, ⟨PyData.keyHash P (Str.ofString "__cached__"), (.str (Str.ofString "__cached__") 174), .none⟩, ⟨PyData.keyHash P (Str.ofString "_wall"), (.str (Str.ofString "_wall") 193), (.ref 21)⟩, ⟨PyData.keyHash P (Str.ofString "_MAX_STRING_SIZE"), (.str (Str.ofString "_MAX_STRING_SIZE") 197), (.int (40) 196)⟩, ⟨PyData.keyHash P (Str.ofString "_MOVE_COST"), (.str (Str.ofString "_MOVE_COST") 199), (.int (2) 198)⟩, ⟨PyData.keyHash P (Str.ofString "_CASE_COST"), (.str (Str.ofString "_CASE_COST") 201), (.int (1) 200)⟩, ⟨PyData.keyHash P (Str.ofString "_substitution_cost"), (.str (Str.ofString "_substitution_cost") 209), (.ref 28)⟩, ⟨PyData.keyHash P (Str.ofString "_levenshtein_distance"), (.str (Str.ofString "_levenshtein_distance") 229), (.ref 35)⟩, ⟨PyData.keyHash P (Str.ofString "_netrclex"), (.str (Str.ofString "_netrclex") 289), (.ref 73)⟩].toArray 16), [].toArray⟩
noncomputable def hT2 (P : Params) : BT := (.node (boot_o_0 P) (.node (boot_o_1 P) (.node (h2_3 P) (.node (boot_o_7 P) (.node (o15 P) (.node (o31 P) (.node (o63 P) .nil .nil) .nil) (.node (h1_47 P) .nil .nil)) (.node (h0_23 P) (.node (o39 P) (.node (o71 P) .nil .nil) .nil) (.node (o55 P) .nil .nil))) (.node (o11 P) (.node (h0_19 P) (.node (o35 P) (.node (o67 P) .nil .nil) .nil) (.node (h1_51 P) .nil .nil)) (.node (o27 P) (.node (o43 P) (.node (o75 P) .nil .nil) .nil) (.node (o59 P) .nil .nil)))) (.node (boot_o_5 P) (.node (boot_o_9 P) (.node (o17 P) (.node (h0_33 P) (.node (h1_65 P) .nil .nil) .nil) (.node (o49 P) .nil .nil)) (.node (o25 P) (.node (o41 P) (.node (o73 P) .nil .nil) .nil) (.node (o57 P) .nil .nil))) (.node (o13 P) (.node (o21 P) (.node (o37 P) (.node (o69 P) .nil .nil) .nil) (.node (o53 P) .nil .nil)) (.node (o29 P) (.node (o45 P) (.node (o77 P) .nil .nil) .nil) (.node (h1_61 P) .nil .nil))))) (.node (boot_o_2 P) (.node (boot_o_4 P) (.node (boot_o_8 P) (.node (h0_16 P) (.node (o32 P) (.node (o64 P) .nil .nil) .nil) (.node (o48 P) .nil .nil)) (.node (o24 P) (.node (h1_40 P) (.node (o72 P) .nil .nil) .nil) (.node (o56 P) .nil .nil))) (.node (h1_12 P) (.node (o20 P) (.node (o36 P) (.node (h1_68 P) .nil .nil) .nil) (.node (o52 P) .nil .nil)) (.node (o28 P) (.node (h1_44 P) (.node (o76 P) .nil .nil) .nil) (.node (o60 P) .nil .nil)))) (.node (boot_o_6 P) (.node (boot_o_10 P) (.node (o18 P) (.node (o34 P) (.node (o66 P) .nil .nil) .nil) (.node (o50 P) .nil .nil)) (.node (h0_26 P) (.node (o42 P) (.node (o74 P) .nil .nil) .nil) (.node (h1_58 P) .nil .nil))) (.node (o14 P) (.node (o22 P) (.node (o38 P) (.node (o70 P) .nil .nil) .nil) (.node (h1_54 P) .nil .nil)) (.node (h0_30 P) (.node (o46 P) .nil .nil) (.node (o62 P) .nil .nil))))))
noncomputable def hS2 (w : World) (os : OsState) : SharedT := ⟨hT2 w.params, 78, hLife w.params, #[], boot_drawn, 292, os⟩
noncomputable def hL2 : List Stmt := (PySem.Challenge.pw_uc0057_03.main.body.drop 9).take 1
noncomputable def h3_3 (P : Params) : Obj := ⟨(.type "dict"), none, (.dict [⟨PyData.keyHash P (Str.ofString "__name__"), (.str (Str.ofString "__name__") 165), (.str (Str.ofString "cpy313.stringprep") 290)⟩, ⟨PyData.keyHash P (Str.ofString "__doc__"), (.str (Str.ofString "__doc__") 166), .none⟩, ⟨PyData.keyHash P (Str.ofString "__package__"), (.str (Str.ofString "__package__") 167), .none⟩, ⟨PyData.keyHash P (Str.ofString "__loader__"), (.str (Str.ofString "__loader__") 168), (.builtin "__main__.__loader__#opaque")⟩, ⟨PyData.keyHash P (Str.ofString "__spec__"), (.str (Str.ofString "__spec__") 169), .none⟩, ⟨PyData.keyHash P (Str.ofString "__annotations__"), (.str (Str.ofString "__annotations__") 170), (.ref 6)⟩, ⟨PyData.keyHash P (Str.ofString "__builtins__"), (.str (Str.ofString "__builtins__") 171), (.ref 4)⟩, ⟨PyData.keyHash P (Str.ofString "__file__"), (.str (Str.ofString "__file__") 173), (.str (Str.ofString "/claim/cut.py") 172)⟩, ⟨PyData.keyHash P (Str.ofString "__cached__"), (.str (Str.ofString "__cached__") 174), .none⟩, ⟨PyData.keyHash P (Str.ofString "_wall"), (.str (Str.ofString "_wall") 193), (.ref 21)⟩, ⟨PyData.keyHash P (Str.ofString "_MAX_STRING_SIZE"), (.str (Str.ofString "_MAX_STRING_SIZE") 197), (.int (40) 196)⟩, ⟨PyData.keyHash P (Str.ofString "_MOVE_COST"), (.str (Str.ofString "_MOVE_COST") 199), (.int (2) 198)⟩, ⟨PyData.keyHash P (Str.ofString "_CASE_COST"), (.str (Str.ofString "_CASE_COST") 201), (.int (1) 200)⟩, ⟨PyData.keyHash P (Str.ofString "_substitution_cost"), (.str (Str.ofString "_substitution_cost") 209), (.ref 28)⟩, ⟨PyData.keyHash P (Str.ofString "_levenshtein_distance"), (.str (Str.ofString "_levenshtein_distance") 229), (.ref 35)⟩, ⟨PyData.keyHash P (Str.ofString "_netrclex"), (.str (Str.ofString "_netrclex") 289), (.ref 73)⟩, ⟨PyData.keyHash P (Str.ofString "b1_set"), (.str (Str.ofString "b1_set") 351), (.ref 85)⟩].toArray 17), [].toArray⟩
noncomputable def hT3 (P : Params) : BT := (.node (boot_o_0 P) (.node (boot_o_1 P) (.node (h3_3 P) (.node (boot_o_7 P) (.node (o15 P) (.node (o31 P) (.node (o63 P) .nil .nil) .nil) (.node (h1_47 P) (.node (o79 P) .nil .nil) .nil)) (.node (h0_23 P) (.node (o39 P) (.node (o71 P) .nil .nil) .nil) (.node (o55 P) (.node (o87 P) .nil .nil) .nil))) (.node (o11 P) (.node (h0_19 P) (.node (o35 P) (.node (o67 P) .nil .nil) .nil) (.node (h1_51 P) (.node (o83 P) .nil .nil) .nil)) (.node (o27 P) (.node (o43 P) (.node (o75 P) .nil .nil) .nil) (.node (o59 P) .nil .nil)))) (.node (boot_o_5 P) (.node (boot_o_9 P) (.node (o17 P) (.node (h0_33 P) (.node (h1_65 P) .nil .nil) .nil) (.node (o49 P) (.node (o81 P) .nil .nil) .nil)) (.node (o25 P) (.node (o41 P) (.node (o73 P) .nil .nil) .nil) (.node (o57 P) .nil .nil))) (.node (o13 P) (.node (o21 P) (.node (o37 P) (.node (o69 P) .nil .nil) .nil) (.node (o53 P) (.node (o85 P) .nil .nil) .nil)) (.node (o29 P) (.node (o45 P) (.node (o77 P) .nil .nil) .nil) (.node (h1_61 P) .nil .nil))))) (.node (boot_o_2 P) (.node (boot_o_4 P) (.node (boot_o_8 P) (.node (h0_16 P) (.node (o32 P) (.node (o64 P) .nil .nil) .nil) (.node (o48 P) (.node (o80 P) .nil .nil) .nil)) (.node (o24 P) (.node (h1_40 P) (.node (o72 P) .nil .nil) .nil) (.node (o56 P) (.node (o88 P) .nil .nil) .nil))) (.node (h1_12 P) (.node (o20 P) (.node (o36 P) (.node (h1_68 P) .nil .nil) .nil) (.node (o52 P) (.node (o84 P) .nil .nil) .nil)) (.node (o28 P) (.node (h1_44 P) (.node (o76 P) .nil .nil) .nil) (.node (o60 P) .nil .nil)))) (.node (boot_o_6 P) (.node (boot_o_10 P) (.node (o18 P) (.node (o34 P) (.node (o66 P) .nil .nil) .nil) (.node (o50 P) (.node (o82 P) .nil .nil) .nil)) (.node (h0_26 P) (.node (o42 P) (.node (o74 P) .nil .nil) .nil) (.node (h1_58 P) .nil .nil))) (.node (o14 P) (.node (o22 P) (.node (o38 P) (.node (o70 P) .nil .nil) .nil) (.node (h1_54 P) (.node (o86 P) .nil .nil) .nil)) (.node (h0_30 P) (.node (o46 P) (.node (o78 P) .nil .nil) .nil) (.node (o62 P) .nil .nil))))))
noncomputable def hS3 (w : World) (os : OsState) : SharedT := ⟨hT3 w.params, 89, hLife w.params, #[], boot_drawn, 352, os⟩
noncomputable def hL3 : List Stmt := (PySem.Challenge.pw_uc0057_03.main.body.drop 10).take 1
noncomputable def h4_3 (P : Params) : Obj := ⟨(.type "dict"), none, (.dict [⟨PyData.keyHash P (Str.ofString "__name__"), (.str (Str.ofString "__name__") 165), (.str (Str.ofString "cpy313.stringprep") 290)⟩, ⟨PyData.keyHash P (Str.ofString "__doc__"), (.str (Str.ofString "__doc__") 166), .none⟩, ⟨PyData.keyHash P (Str.ofString "__package__"), (.str (Str.ofString "__package__") 167), .none⟩, ⟨PyData.keyHash P (Str.ofString "__loader__"), (.str (Str.ofString "__loader__") 168), (.builtin "__main__.__loader__#opaque")⟩, ⟨PyData.keyHash P (Str.ofString "__spec__"), (.str (Str.ofString "__spec__") 169), .none⟩, ⟨PyData.keyHash P (Str.ofString "__annotations__"), (.str (Str.ofString "__annotations__") 170), (.ref 6)⟩, ⟨PyData.keyHash P (Str.ofString "__builtins__"), (.str (Str.ofString "__builtins__") 171), (.ref 4)⟩, ⟨PyData.keyHash P (Str.ofString "__file__"), (.str (Str.ofString "__file__") 173), (.str (Str.ofString "/claim/cut.py") 172)⟩, ⟨PyData.keyHash P (Str.ofString "__cached__"), (.str (Str.ofString "__cached__") 174), .none⟩, ⟨PyData.keyHash P (Str.ofString "_wall"), (.str (Str.ofString "_wall") 193), (.ref 21)⟩, ⟨PyData.keyHash P (Str.ofString "_MAX_STRING_SIZE"), (.str (Str.ofString "_MAX_STRING_SIZE") 197), (.int (40) 196)⟩, ⟨PyData.keyHash P (Str.ofString "_MOVE_COST"), (.str (Str.ofString "_MOVE_COST") 199), (.int (2) 198)⟩, ⟨PyData.keyHash P (Str.ofString "_CASE_COST"), (.str (Str.ofString "_CASE_COST") 201), (.int (1) 200)⟩, ⟨PyData.keyHash P (Str.ofString "_substitution_cost"), (.str (Str.ofString "_substitution_cost") 209), (.ref 28)⟩, ⟨PyData.keyHash P (Str.ofString "_levenshtein_distance"), (.str (Str.ofString "_levenshtein_distance") 229), (.ref 35)⟩, ⟨PyData.keyHash P (Str.ofString "_netrclex"), (.str (Str.ofString "_netrclex") 289), (.ref 73)⟩, ⟨PyData.keyHash P (Str.ofString "b1_set"), (.str (Str.ofString "b1_set") 351), (.ref 85)⟩, ⟨PyData.keyHash P (Str.ofString "in_table_b1"), (.str (Str.ofString "in_table_b1") 358), (.ref 95)⟩].toArray 18), [].toArray⟩
noncomputable def h4_12 (P : Params) : Obj := ⟨.none, none, (.fields [(.int (1) 0), (.int (0) 0), (.ref 20), (.int (8) 0), (.int (0) 0), (.ref 27), (.int (14) 0), (.int (0) 0), (.ref 34), (.int (53) 0), (.int (0) 0), (.ref 41), (.int (98) 0), (.int (0) 0), (.ref 94)].toArray), [].toArray⟩
noncomputable def h4_90 (P : Params) : Obj := ⟨.none, none, (.fields [].toArray), [].toArray⟩
noncomputable def h4_93 (P : Params) : Obj := ⟨.none, none, (.func { name := (Str.ofString "in_table_b1"), qualname := (Str.ofString "in_table_b1"), params := f11_args, body := .stmts f11_body, scope := f11_scope, globals := 0, closure := [], defaults := .none, kwdefaults := .none, doc := .none, pyModule := .none, annotations := none, code := .none, closureTuple := .none, builtins := 0 }), [].toArray⟩
noncomputable def hT4 (P : Params) : BT := (.node (boot_o_0 P) (.node (boot_o_1 P) (.node (h4_3 P) (.node (boot_o_7 P) (.node (o15 P) (.node (o31 P) (.node (o63 P) .nil .nil) (.node (o95 P) .nil .nil)) (.node (h1_47 P) (.node (o79 P) .nil .nil) .nil)) (.node (h0_23 P) (.node (o39 P) (.node (o71 P) .nil .nil) .nil) (.node (o55 P) (.node (o87 P) .nil .nil) .nil))) (.node (o11 P) (.node (h0_19 P) (.node (o35 P) (.node (o67 P) .nil .nil) .nil) (.node (h1_51 P) (.node (o83 P) .nil .nil) .nil)) (.node (o27 P) (.node (o43 P) (.node (o75 P) .nil .nil) .nil) (.node (o59 P) (.node (o91 P) .nil .nil) .nil)))) (.node (boot_o_5 P) (.node (boot_o_9 P) (.node (o17 P) (.node (h0_33 P) (.node (h1_65 P) .nil .nil) .nil) (.node (o49 P) (.node (o81 P) .nil .nil) .nil)) (.node (o25 P) (.node (o41 P) (.node (o73 P) .nil .nil) .nil) (.node (o57 P) (.node (o89 P) .nil .nil) .nil))) (.node (o13 P) (.node (o21 P) (.node (o37 P) (.node (o69 P) .nil .nil) .nil) (.node (o53 P) (.node (o85 P) .nil .nil) .nil)) (.node (o29 P) (.node (o45 P) (.node (o77 P) .nil .nil) .nil) (.node (h1_61 P) (.node (h4_93 P) .nil .nil) .nil))))) (.node (boot_o_2 P) (.node (boot_o_4 P) (.node (boot_o_8 P) (.node (h0_16 P) (.node (o32 P) (.node (o64 P) .nil .nil) .nil) (.node (o48 P) (.node (o80 P) .nil .nil) .nil)) (.node (o24 P) (.node (h1_40 P) (.node (o72 P) .nil .nil) .nil) (.node (o56 P) (.node (o88 P) .nil .nil) .nil))) (.node (h4_12 P) (.node (o20 P) (.node (o36 P) (.node (h1_68 P) .nil .nil) .nil) (.node (o52 P) (.node (o84 P) .nil .nil) .nil)) (.node (o28 P) (.node (h1_44 P) (.node (o76 P) .nil .nil) .nil) (.node (o60 P) (.node (o92 P) .nil .nil) .nil)))) (.node (boot_o_6 P) (.node (boot_o_10 P) (.node (o18 P) (.node (o34 P) (.node (o66 P) .nil .nil) .nil) (.node (o50 P) (.node (o82 P) .nil .nil) .nil)) (.node (h0_26 P) (.node (o42 P) (.node (o74 P) .nil .nil) .nil) (.node (h1_58 P) (.node (h4_90 P) .nil .nil) .nil))) (.node (o14 P) (.node (o22 P) (.node (o38 P) (.node (o70 P) .nil .nil) .nil) (.node (h1_54 P) (.node (o86 P) .nil .nil) .nil)) (.node (h0_30 P) (.node (o46 P) (.node (o78 P) .nil .nil) .nil) (.node (o62 P) (.node (o94 P) .nil .nil) .nil))))))
noncomputable def hS4 (w : World) (os : OsState) : SharedT := ⟨hT4 w.params, 96, hLife w.params, #[], boot_drawn, 359, os⟩
noncomputable def hL4 : List Stmt := (PySem.Challenge.pw_uc0057_03.main.body.drop 11).take 1
noncomputable def h5_3 (P : Params) : Obj := ⟨(.type "dict"), none, (.dict [⟨PyData.keyHash P (Str.ofString "__name__"), (.str (Str.ofString "__name__") 165), (.str (Str.ofString "cpy313.stringprep") 290)⟩, ⟨PyData.keyHash P (Str.ofString "__doc__"), (.str (Str.ofString "__doc__") 166), .none⟩, ⟨PyData.keyHash P (Str.ofString "__package__"), (.str (Str.ofString "__package__") 167), .none⟩, ⟨PyData.keyHash P (Str.ofString "__loader__"), (.str (Str.ofString "__loader__") 168), (.builtin "__main__.__loader__#opaque")⟩, ⟨PyData.keyHash P (Str.ofString "__spec__"), (.str (Str.ofString "__spec__") 169), .none⟩, ⟨PyData.keyHash P (Str.ofString "__annotations__"), (.str (Str.ofString "__annotations__") 170), (.ref 6)⟩, ⟨PyData.keyHash P (Str.ofString "__builtins__"), (.str (Str.ofString "__builtins__") 171), (.ref 4)⟩, ⟨PyData.keyHash P (Str.ofString "__file__"), (.str (Str.ofString "__file__") 173), (.str (Str.ofString "/claim/cut.py") 172)⟩, ⟨PyData.keyHash P (Str.ofString "__cached__"), (.str (Str.ofString "__cached__") 174), .none⟩, ⟨PyData.keyHash P (Str.ofString "_wall"), (.str (Str.ofString "_wall") 193), (.ref 21)⟩, ⟨PyData.keyHash P (Str.ofString "_MAX_STRING_SIZE"), (.str (Str.ofString "_MAX_STRING_SIZE") 197), (.int (40) 196)⟩, ⟨PyData.keyHash P (Str.ofString "_MOVE_COST"), (.str (Str.ofString "_MOVE_COST") 199), (.int (2) 198)⟩, ⟨PyData.keyHash P (Str.ofString "_CASE_COST"), (.str (Str.ofString "_CASE_COST") 201), (.int (1) 200)⟩, ⟨PyData.keyHash P (Str.ofString "_substitution_cost"), (.str (Str.ofString "_substitution_cost") 209), (.ref 28)⟩, ⟨PyData.keyHash P (Str.ofString "_levenshtein_distance"), (.str (Str.ofString "_levenshtein_distance") 229), (.ref 35)⟩, ⟨PyData.keyHash P (Str.ofString "_netrclex"), (.str (Str.ofString "_netrclex") 289), (.ref 73)⟩, ⟨PyData.keyHash P (Str.ofString "b1_set"), (.str (Str.ofString "b1_set") 351), (.ref 85)⟩, ⟨PyData.keyHash P (Str.ofString "in_table_b1"), (.str (Str.ofString "in_table_b1") 358), (.ref 95)⟩, ⟨PyData.keyHash P (Str.ofString "b3_exceptions"), (.str (Str.ofString "b3_exceptions") 2309), (.ref 96)⟩].toArray 19), [].toArray⟩
noncomputable def ht97 : Obj := ⟨.type "dict", none, .dict (((tabFrom 0 tabKeys tabVals).drop 17).take 17).toArray 17, [].toArray⟩
noncomputable def ht98 : Obj := ⟨.type "dict", none, .dict (((tabFrom 0 tabKeys tabVals).drop 34).take 17).toArray 17, [].toArray⟩
noncomputable def ht99 : Obj := ⟨.type "dict", none, .dict (((tabFrom 0 tabKeys tabVals).drop 51).take 17).toArray 17, [].toArray⟩
noncomputable def ht100 : Obj := ⟨.type "dict", none, .dict (((tabFrom 0 tabKeys tabVals).drop 68).take 17).toArray 17, [].toArray⟩
noncomputable def ht101 : Obj := ⟨.type "dict", none, .dict (((tabFrom 0 tabKeys tabVals).drop 85).take 17).toArray 17, [].toArray⟩
noncomputable def ht102 : Obj := ⟨.type "dict", none, .dict (((tabFrom 0 tabKeys tabVals).drop 102).take 17).toArray 17, [].toArray⟩
noncomputable def ht103 : Obj := ⟨.type "dict", none, .dict (((tabFrom 0 tabKeys tabVals).drop 119).take 17).toArray 17, [].toArray⟩
noncomputable def ht104 : Obj := ⟨.type "dict", none, .dict (((tabFrom 0 tabKeys tabVals).drop 136).take 17).toArray 17, [].toArray⟩
noncomputable def ht105 : Obj := ⟨.type "dict", none, .dict (((tabFrom 0 tabKeys tabVals).drop 153).take 17).toArray 17, [].toArray⟩
noncomputable def ht106 : Obj := ⟨.type "dict", none, .dict (((tabFrom 0 tabKeys tabVals).drop 170).take 17).toArray 17, [].toArray⟩
noncomputable def ht107 : Obj := ⟨.type "dict", none, .dict (((tabFrom 0 tabKeys tabVals).drop 187).take 17).toArray 17, [].toArray⟩
noncomputable def ht108 : Obj := ⟨.type "dict", none, .dict (((tabFrom 0 tabKeys tabVals).drop 204).take 17).toArray 17, [].toArray⟩
noncomputable def ht109 : Obj := ⟨.type "dict", none, .dict (((tabFrom 0 tabKeys tabVals).drop 221).take 17).toArray 17, [].toArray⟩
noncomputable def ht110 : Obj := ⟨.type "dict", none, .dict (((tabFrom 0 tabKeys tabVals).drop 238).take 17).toArray 17, [].toArray⟩
noncomputable def ht111 : Obj := ⟨.type "dict", none, .dict (((tabFrom 0 tabKeys tabVals).drop 255).take 17).toArray 17, [].toArray⟩
noncomputable def ht112 : Obj := ⟨.type "dict", none, .dict (((tabFrom 0 tabKeys tabVals).drop 272).take 17).toArray 17, [].toArray⟩
noncomputable def ht113 : Obj := ⟨.type "dict", none, .dict (((tabFrom 0 tabKeys tabVals).drop 289).take 17).toArray 17, [].toArray⟩
noncomputable def ht114 : Obj := ⟨.type "dict", none, .dict (((tabFrom 0 tabKeys tabVals).drop 306).take 17).toArray 17, [].toArray⟩
noncomputable def ht115 : Obj := ⟨.type "dict", none, .dict (((tabFrom 0 tabKeys tabVals).drop 323).take 17).toArray 17, [].toArray⟩
noncomputable def ht116 : Obj := ⟨.type "dict", none, .dict (((tabFrom 0 tabKeys tabVals).drop 340).take 17).toArray 17, [].toArray⟩
noncomputable def ht117 : Obj := ⟨.type "dict", none, .dict (((tabFrom 0 tabKeys tabVals).drop 357).take 17).toArray 17, [].toArray⟩
noncomputable def ht118 : Obj := ⟨.type "dict", none, .dict (((tabFrom 0 tabKeys tabVals).drop 374).take 17).toArray 17, [].toArray⟩
noncomputable def ht119 : Obj := ⟨.type "dict", none, .dict (((tabFrom 0 tabKeys tabVals).drop 391).take 17).toArray 17, [].toArray⟩
noncomputable def ht120 : Obj := ⟨.type "dict", none, .dict (((tabFrom 0 tabKeys tabVals).drop 408).take 17).toArray 17, [].toArray⟩
noncomputable def ht121 : Obj := ⟨.type "dict", none, .dict (((tabFrom 0 tabKeys tabVals).drop 425).take 17).toArray 17, [].toArray⟩
noncomputable def ht122 : Obj := ⟨.type "dict", none, .dict (((tabFrom 0 tabKeys tabVals).drop 442).take 17).toArray 17, [].toArray⟩
noncomputable def ht123 : Obj := ⟨.type "dict", none, .dict (((tabFrom 0 tabKeys tabVals).drop 459).take 17).toArray 17, [].toArray⟩
noncomputable def ht124 : Obj := ⟨.type "dict", none, .dict (((tabFrom 0 tabKeys tabVals).drop 476).take 17).toArray 17, [].toArray⟩
noncomputable def ht125 : Obj := ⟨.type "dict", none, .dict (((tabFrom 0 tabKeys tabVals).drop 493).take 17).toArray 17, [].toArray⟩
noncomputable def ht126 : Obj := ⟨.type "dict", none, .dict (((tabFrom 0 tabKeys tabVals).drop 510).take 17).toArray 17, [].toArray⟩
noncomputable def ht127 : Obj := ⟨.type "dict", none, .dict (((tabFrom 0 tabKeys tabVals).drop 527).take 17).toArray 17, [].toArray⟩
noncomputable def ht128 : Obj := ⟨.type "dict", none, .dict (((tabFrom 0 tabKeys tabVals).drop 544).take 17).toArray 17, [].toArray⟩
noncomputable def ht129 : Obj := ⟨.type "dict", none, .dict (((tabFrom 0 tabKeys tabVals).drop 561).take 17).toArray 17, [].toArray⟩
noncomputable def ht130 : Obj := ⟨.type "dict", none, .dict (((tabFrom 0 tabKeys tabVals).drop 578).take 17).toArray 17, [].toArray⟩
noncomputable def ht131 : Obj := ⟨.type "dict", none, .dict (((tabFrom 0 tabKeys tabVals).drop 595).take 17).toArray 17, [].toArray⟩
noncomputable def ht132 : Obj := ⟨.type "dict", none, .dict (((tabFrom 0 tabKeys tabVals).drop 612).take 17).toArray 17, [].toArray⟩
noncomputable def ht133 : Obj := ⟨.type "dict", none, .dict (((tabFrom 0 tabKeys tabVals).drop 629).take 17).toArray 17, [].toArray⟩
noncomputable def ht134 : Obj := ⟨.type "dict", none, .dict (((tabFrom 0 tabKeys tabVals).drop 646).take 4).toArray 4, [].toArray⟩
noncomputable def hT5 (P : Params) : BT := (.node (boot_o_0 P) (.node (boot_o_1 P) (.node (h5_3 P) (.node (boot_o_7 P) (.node (o15 P) (.node (o31 P) (.node (o63 P) (.node ht127 .nil .nil) .nil) (.node (o95 P) .nil .nil)) (.node (h1_47 P) (.node (o79 P) .nil .nil) (.node ht111 .nil .nil))) (.node (h0_23 P) (.node (o39 P) (.node (o71 P) .nil .nil) (.node ht103 .nil .nil)) (.node (o55 P) (.node (o87 P) .nil .nil) (.node ht119 .nil .nil)))) (.node (o11 P) (.node (h0_19 P) (.node (o35 P) (.node (o67 P) (.node ht131 .nil .nil) .nil) (.node ht99 .nil .nil)) (.node (h1_51 P) (.node (o83 P) .nil .nil) (.node ht115 .nil .nil))) (.node (o27 P) (.node (o43 P) (.node (o75 P) .nil .nil) (.node ht107 .nil .nil)) (.node (o59 P) (.node (o91 P) .nil .nil) (.node ht123 .nil .nil))))) (.node (boot_o_5 P) (.node (boot_o_9 P) (.node (o17 P) (.node (h0_33 P) (.node (h1_65 P) (.node ht129 .nil .nil) .nil) (.node ht97 .nil .nil)) (.node (o49 P) (.node (o81 P) .nil .nil) (.node ht113 .nil .nil))) (.node (o25 P) (.node (o41 P) (.node (o73 P) .nil .nil) (.node ht105 .nil .nil)) (.node (o57 P) (.node (o89 P) .nil .nil) (.node ht121 .nil .nil)))) (.node (o13 P) (.node (o21 P) (.node (o37 P) (.node (o69 P) (.node ht133 .nil .nil) .nil) (.node ht101 .nil .nil)) (.node (o53 P) (.node (o85 P) .nil .nil) (.node ht117 .nil .nil))) (.node (o29 P) (.node (o45 P) (.node (o77 P) .nil .nil) (.node ht109 .nil .nil)) (.node (h1_61 P) (.node (h4_93 P) .nil .nil) (.node ht125 .nil .nil)))))) (.node (boot_o_2 P) (.node (boot_o_4 P) (.node (boot_o_8 P) (.node (h0_16 P) (.node (o32 P) (.node (o64 P) (.node ht128 .nil .nil) .nil) (.node (o96 P) .nil .nil)) (.node (o48 P) (.node (o80 P) .nil .nil) (.node ht112 .nil .nil))) (.node (o24 P) (.node (h1_40 P) (.node (o72 P) .nil .nil) (.node ht104 .nil .nil)) (.node (o56 P) (.node (o88 P) .nil .nil) (.node ht120 .nil .nil)))) (.node (h4_12 P) (.node (o20 P) (.node (o36 P) (.node (h1_68 P) (.node ht132 .nil .nil) .nil) (.node ht100 .nil .nil)) (.node (o52 P) (.node (o84 P) .nil .nil) (.node ht116 .nil .nil))) (.node (o28 P) (.node (h1_44 P) (.node (o76 P) .nil .nil) (.node ht108 .nil .nil)) (.node (o60 P) (.node (o92 P) .nil .nil) (.node ht124 .nil .nil))))) (.node (boot_o_6 P) (.node (boot_o_10 P) (.node (o18 P) (.node (o34 P) (.node (o66 P) (.node ht130 .nil .nil) .nil) (.node ht98 .nil .nil)) (.node (o50 P) (.node (o82 P) .nil .nil) (.node ht114 .nil .nil))) (.node (h0_26 P) (.node (o42 P) (.node (o74 P) .nil .nil) (.node ht106 .nil .nil)) (.node (h1_58 P) (.node (h4_90 P) .nil .nil) (.node ht122 .nil .nil)))) (.node (o14 P) (.node (o22 P) (.node (o38 P) (.node (o70 P) (.node ht134 .nil .nil) .nil) (.node ht102 .nil .nil)) (.node (h1_54 P) (.node (o86 P) .nil .nil) (.node ht118 .nil .nil))) (.node (h0_30 P) (.node (o46 P) (.node (o78 P) .nil .nil) (.node ht110 .nil .nil)) (.node (o62 P) (.node (o94 P) .nil .nil) (.node ht126 .nil .nil)))))))
noncomputable def hS5 (w : World) (os : OsState) : SharedT := ⟨hT5 w.params, 135, hLife w.params, #[], boot_drawn, 2310, os⟩
noncomputable def hTd (P : Params) : BT := (.node (boot_o_0 P) (.node (boot_o_1 P) (.node (h4_3 P) (.node (boot_o_7 P) (.node (o15 P) (.node (o31 P) (.node (o63 P) (.node ht127 .nil .nil) .nil) (.node (o95 P) .nil .nil)) (.node (h1_47 P) (.node (o79 P) .nil .nil) (.node ht111 .nil .nil))) (.node (h0_23 P) (.node (o39 P) (.node (o71 P) .nil .nil) (.node ht103 .nil .nil)) (.node (o55 P) (.node (o87 P) .nil .nil) (.node ht119 .nil .nil)))) (.node (o11 P) (.node (h0_19 P) (.node (o35 P) (.node (o67 P) (.node ht131 .nil .nil) .nil) (.node ht99 .nil .nil)) (.node (h1_51 P) (.node (o83 P) .nil .nil) (.node ht115 .nil .nil))) (.node (o27 P) (.node (o43 P) (.node (o75 P) .nil .nil) (.node ht107 .nil .nil)) (.node (o59 P) (.node (o91 P) .nil .nil) (.node ht123 .nil .nil))))) (.node (boot_o_5 P) (.node (boot_o_9 P) (.node (o17 P) (.node (h0_33 P) (.node (h1_65 P) (.node ht129 .nil .nil) .nil) (.node ht97 .nil .nil)) (.node (o49 P) (.node (o81 P) .nil .nil) (.node ht113 .nil .nil))) (.node (o25 P) (.node (o41 P) (.node (o73 P) .nil .nil) (.node ht105 .nil .nil)) (.node (o57 P) (.node (o89 P) .nil .nil) (.node ht121 .nil .nil)))) (.node (o13 P) (.node (o21 P) (.node (o37 P) (.node (o69 P) (.node ht133 .nil .nil) .nil) (.node ht101 .nil .nil)) (.node (o53 P) (.node (o85 P) .nil .nil) (.node ht117 .nil .nil))) (.node (o29 P) (.node (o45 P) (.node (o77 P) .nil .nil) (.node ht109 .nil .nil)) (.node (h1_61 P) (.node (h4_93 P) .nil .nil) (.node ht125 .nil .nil)))))) (.node (boot_o_2 P) (.node (boot_o_4 P) (.node (boot_o_8 P) (.node (h0_16 P) (.node (o32 P) (.node (o64 P) (.node ht128 .nil .nil) .nil) (.node (o96 P) .nil .nil)) (.node (o48 P) (.node (o80 P) .nil .nil) (.node ht112 .nil .nil))) (.node (o24 P) (.node (h1_40 P) (.node (o72 P) .nil .nil) (.node ht104 .nil .nil)) (.node (o56 P) (.node (o88 P) .nil .nil) (.node ht120 .nil .nil)))) (.node (h4_12 P) (.node (o20 P) (.node (o36 P) (.node (h1_68 P) (.node ht132 .nil .nil) .nil) (.node ht100 .nil .nil)) (.node (o52 P) (.node (o84 P) .nil .nil) (.node ht116 .nil .nil))) (.node (o28 P) (.node (h1_44 P) (.node (o76 P) .nil .nil) (.node ht108 .nil .nil)) (.node (o60 P) (.node (o92 P) .nil .nil) (.node ht124 .nil .nil))))) (.node (boot_o_6 P) (.node (boot_o_10 P) (.node (o18 P) (.node (o34 P) (.node (o66 P) (.node ht130 .nil .nil) .nil) (.node ht98 .nil .nil)) (.node (o50 P) (.node (o82 P) .nil .nil) (.node ht114 .nil .nil))) (.node (h0_26 P) (.node (o42 P) (.node (o74 P) .nil .nil) (.node ht106 .nil .nil)) (.node (h1_58 P) (.node (h4_90 P) .nil .nil) (.node ht122 .nil .nil)))) (.node (o14 P) (.node (o22 P) (.node (o38 P) (.node (o70 P) (.node ht134 .nil .nil) .nil) (.node ht102 .nil .nil)) (.node (h1_54 P) (.node (o86 P) .nil .nil) (.node ht118 .nil .nil))) (.node (h0_30 P) (.node (o46 P) (.node (o78 P) .nil .nil) (.node ht110 .nil .nil)) (.node (o62 P) (.node (o94 P) .nil .nil) (.node ht126 .nil .nil)))))))
noncomputable def tabTg : List Expr := match tabS with | .Assign t _ _ => t | _ => []
noncomputable def tabP : Pos := match tabS with | .Assign _ (.Dict _ _ p) _ => p | _ => ⟨0, 0, 0, 0⟩
noncomputable def tabP0 : Pos := match tabS with | .Assign _ _ p => p | _ => ⟨0, 0, 0, 0⟩
noncomputable def hL5 : List Stmt := (PySem.Challenge.pw_uc0057_03.main.body.drop 12).take 1
noncomputable def h6_3 (P : Params) : Obj := ⟨(.type "dict"), none, (.dict [⟨PyData.keyHash P (Str.ofString "__name__"), (.str (Str.ofString "__name__") 165), (.str (Str.ofString "cpy313.tabnanny") 2318)⟩, ⟨PyData.keyHash P (Str.ofString "__doc__"), (.str (Str.ofString "__doc__") 166), .none⟩, ⟨PyData.keyHash P (Str.ofString "__package__"), (.str (Str.ofString "__package__") 167), .none⟩, ⟨PyData.keyHash P (Str.ofString "__loader__"), (.str (Str.ofString "__loader__") 168), (.builtin "__main__.__loader__#opaque")⟩, ⟨PyData.keyHash P (Str.ofString "__spec__"), (.str (Str.ofString "__spec__") 169), .none⟩, ⟨PyData.keyHash P (Str.ofString "__annotations__"), (.str (Str.ofString "__annotations__") 170), (.ref 6)⟩, ⟨PyData.keyHash P (Str.ofString "__builtins__"), (.str (Str.ofString "__builtins__") 171), (.ref 4)⟩, ⟨PyData.keyHash P (Str.ofString "__file__"), (.str (Str.ofString "__file__") 173), (.str (Str.ofString "/claim/cut.py") 172)⟩, ⟨PyData.keyHash P (Str.ofString "__cached__"), (.str (Str.ofString "__cached__") 174), .none⟩, ⟨PyData.keyHash P (Str.ofString "_wall"), (.str (Str.ofString "_wall") 193), (.ref 21)⟩, ⟨PyData.keyHash P (Str.ofString "_MAX_STRING_SIZE"), (.str (Str.ofString "_MAX_STRING_SIZE") 197), (.int (40) 196)⟩, ⟨PyData.keyHash P (Str.ofString "_MOVE_COST"), (.str (Str.ofString "_MOVE_COST") 199), (.int (2) 198)⟩, ⟨PyData.keyHash P (Str.ofString "_CASE_COST"), (.str (Str.ofString "_CASE_COST") 201), (.int (1) 200)⟩, ⟨PyData.keyHash P (Str.ofString "_substitution_cost"), (.str (Str.ofString "_substitution_cost") 209), (.ref 28)⟩, ⟨PyData.keyHash P (Str.ofString "_levenshtein_distance"), (.str (Str.ofString "_levenshtein_distance") 229), (.ref 35)⟩, ⟨PyData.keyHash P (Str.ofString "_netrclex"), (.str (Str.ofString "_netrclex") 289), (.ref 73)⟩, ⟨PyData.keyHash P (Str.ofString "b1_set"), (.str (Str.ofString "b1_set") 351), (.ref 85)⟩, ⟨PyData.keyHash P (Str.ofString "in_table_b1"), (.str (Str.ofString "in_table_b1") 358), (.ref 95)⟩, ⟨PyData.keyHash P (Str.ofString "b3_exceptions"), (.str (Str.ofString "b3_exceptions") 2309), (.ref 96)⟩, ⟨PyData.keyHash P (Str.ofString "map_table_b3"), (.str (Str.ofString "map_table_b3") 2317), (.ref 141)⟩].toArray 20), [].toArray⟩
noncomputable def h6_12 (P : Params) : Obj := ⟨.none, none, (.fields [(.int (1) 0), (.int (0) 0), (.ref 20), (.int (8) 0), (.int (0) 0), (.ref 27), (.int (14) 0), (.int (0) 0), (.ref 34), (.int (53) 0), (.int (0) 0), (.ref 41), (.int (98) 0), (.int (0) 0), (.ref 94), (.int (101) 0), (.int (0) 0), (.ref 140)].toArray), [].toArray⟩
noncomputable def h6_136 (P : Params) : Obj := ⟨.none, none, (.fields [].toArray), [].toArray⟩
noncomputable def h6_139 (P : Params) : Obj := ⟨.none, none, (.func { name := (Str.ofString "map_table_b3"), qualname := (Str.ofString "map_table_b3"), params := f13_args, body := .stmts f13_body, scope := f13_scope, globals := 0, closure := [], defaults := .none, kwdefaults := .none, doc := .none, pyModule := .none, annotations := none, code := .none, closureTuple := .none, builtins := 0 }), [].toArray⟩
noncomputable def hT6 (P : Params) : BT := (.node (boot_o_0 P) (.node (boot_o_1 P) (.node (h6_3 P) (.node (boot_o_7 P) (.node (o15 P) (.node (o31 P) (.node (o63 P) (.node ht127 .nil .nil) .nil) (.node (o95 P) .nil .nil)) (.node (h1_47 P) (.node (o79 P) .nil .nil) (.node ht111 .nil .nil))) (.node (h0_23 P) (.node (o39 P) (.node (o71 P) (.node (o135 P) .nil .nil) .nil) (.node ht103 .nil .nil)) (.node (o55 P) (.node (o87 P) .nil .nil) (.node ht119 .nil .nil)))) (.node (o11 P) (.node (h0_19 P) (.node (o35 P) (.node (o67 P) (.node ht131 .nil .nil) .nil) (.node ht99 .nil .nil)) (.node (h1_51 P) (.node (o83 P) .nil .nil) (.node ht115 .nil .nil))) (.node (o27 P) (.node (o43 P) (.node (o75 P) (.node (h6_139 P) .nil .nil) .nil) (.node ht107 .nil .nil)) (.node (o59 P) (.node (o91 P) .nil .nil) (.node ht123 .nil .nil))))) (.node (boot_o_5 P) (.node (boot_o_9 P) (.node (o17 P) (.node (h0_33 P) (.node (h1_65 P) (.node ht129 .nil .nil) .nil) (.node ht97 .nil .nil)) (.node (o49 P) (.node (o81 P) .nil .nil) (.node ht113 .nil .nil))) (.node (o25 P) (.node (o41 P) (.node (o73 P) (.node (o137 P) .nil .nil) .nil) (.node ht105 .nil .nil)) (.node (o57 P) (.node (o89 P) .nil .nil) (.node ht121 .nil .nil)))) (.node (o13 P) (.node (o21 P) (.node (o37 P) (.node (o69 P) (.node ht133 .nil .nil) .nil) (.node ht101 .nil .nil)) (.node (o53 P) (.node (o85 P) .nil .nil) (.node ht117 .nil .nil))) (.node (o29 P) (.node (o45 P) (.node (o77 P) (.node (o141 P) .nil .nil) .nil) (.node ht109 .nil .nil)) (.node (h1_61 P) (.node (h4_93 P) .nil .nil) (.node ht125 .nil .nil)))))) (.node (boot_o_2 P) (.node (boot_o_4 P) (.node (boot_o_8 P) (.node (h0_16 P) (.node (o32 P) (.node (o64 P) (.node ht128 .nil .nil) .nil) (.node (o96 P) .nil .nil)) (.node (o48 P) (.node (o80 P) .nil .nil) (.node ht112 .nil .nil))) (.node (o24 P) (.node (h1_40 P) (.node (o72 P) (.node (h6_136 P) .nil .nil) .nil) (.node ht104 .nil .nil)) (.node (o56 P) (.node (o88 P) .nil .nil) (.node ht120 .nil .nil)))) (.node (h6_12 P) (.node (o20 P) (.node (o36 P) (.node (h1_68 P) (.node ht132 .nil .nil) .nil) (.node ht100 .nil .nil)) (.node (o52 P) (.node (o84 P) .nil .nil) (.node ht116 .nil .nil))) (.node (o28 P) (.node (h1_44 P) (.node (o76 P) (.node (o140 P) .nil .nil) .nil) (.node ht108 .nil .nil)) (.node (o60 P) (.node (o92 P) .nil .nil) (.node ht124 .nil .nil))))) (.node (boot_o_6 P) (.node (boot_o_10 P) (.node (o18 P) (.node (o34 P) (.node (o66 P) (.node ht130 .nil .nil) .nil) (.node ht98 .nil .nil)) (.node (o50 P) (.node (o82 P) .nil .nil) (.node ht114 .nil .nil))) (.node (h0_26 P) (.node (o42 P) (.node (o74 P) (.node (o138 P) .nil .nil) .nil) (.node ht106 .nil .nil)) (.node (h1_58 P) (.node (h4_90 P) .nil .nil) (.node ht122 .nil .nil)))) (.node (o14 P) (.node (o22 P) (.node (o38 P) (.node (o70 P) (.node ht134 .nil .nil) .nil) (.node ht102 .nil .nil)) (.node (h1_54 P) (.node (o86 P) .nil .nil) (.node ht118 .nil .nil))) (.node (h0_30 P) (.node (o46 P) (.node (o78 P) .nil .nil) (.node ht110 .nil .nil)) (.node (o62 P) (.node (o94 P) .nil .nil) (.node ht126 .nil .nil)))))))
noncomputable def hS6 (w : World) (os : OsState) : SharedT := ⟨hT6 w.params, 142, hLife w.params, #[], boot_drawn, 2320, os⟩
noncomputable def hL6 : List Stmt := (PySem.Challenge.pw_uc0057_03.main.body.drop 13).take 2
noncomputable def h7_3 (P : Params) : Obj := ⟨(.type "dict"), none, (.dict [⟨PyData.keyHash P (Str.ofString "__name__"), (.str (Str.ofString "__name__") 165), (.str (Str.ofString "cpy313.tabnanny") 2318)⟩, ⟨PyData.keyHash P (Str.ofString "__doc__"), (.str (Str.ofString "__doc__") 166), .none⟩, ⟨PyData.keyHash P (Str.ofString "__package__"), (.str (Str.ofString "__package__") 167), .none⟩, ⟨PyData.keyHash P (Str.ofString "__loader__"), (.str (Str.ofString "__loader__") 168), (.builtin "__main__.__loader__#opaque")⟩, ⟨PyData.keyHash P (Str.ofString "__spec__"), (.str (Str.ofString "__spec__") 169), .none⟩, ⟨PyData.keyHash P (Str.ofString "__annotations__"), (.str (Str.ofString "__annotations__") 170), (.ref 6)⟩, ⟨PyData.keyHash P (Str.ofString "__builtins__"), (.str (Str.ofString "__builtins__") 171), (.ref 4)⟩, ⟨PyData.keyHash P (Str.ofString "__file__"), (.str (Str.ofString "__file__") 173), (.str (Str.ofString "/claim/cut.py") 172)⟩, ⟨PyData.keyHash P (Str.ofString "__cached__"), (.str (Str.ofString "__cached__") 174), .none⟩, ⟨PyData.keyHash P (Str.ofString "_wall"), (.str (Str.ofString "_wall") 193), (.ref 21)⟩, ⟨PyData.keyHash P (Str.ofString "_MAX_STRING_SIZE"), (.str (Str.ofString "_MAX_STRING_SIZE") 197), (.int (40) 196)⟩, ⟨PyData.keyHash P (Str.ofString "_MOVE_COST"), (.str (Str.ofString "_MOVE_COST") 199), (.int (2) 198)⟩, ⟨PyData.keyHash P (Str.ofString "_CASE_COST"), (.str (Str.ofString "_CASE_COST") 201), (.int (1) 200)⟩, ⟨PyData.keyHash P (Str.ofString "_substitution_cost"), (.str (Str.ofString "_substitution_cost") 209), (.ref 28)⟩, ⟨PyData.keyHash P (Str.ofString "_levenshtein_distance"), (.str (Str.ofString "_levenshtein_distance") 229), (.ref 35)⟩, ⟨PyData.keyHash P (Str.ofString "_netrclex"), (.str (Str.ofString "_netrclex") 289), (.ref 73)⟩, ⟨PyData.keyHash P (Str.ofString "b1_set"), (.str (Str.ofString "b1_set") 351), (.ref 85)⟩, ⟨PyData.keyHash P (Str.ofString "in_table_b1"), (.str (Str.ofString "in_table_b1") 358), (.ref 95)⟩, ⟨PyData.keyHash P (Str.ofString "b3_exceptions"), (.str (Str.ofString "b3_exceptions") 2309), (.ref 96)⟩, ⟨PyData.keyHash P (Str.ofString "map_table_b3"), (.str (Str.ofString "map_table_b3") 2317), (.ref 141)⟩, ⟨PyData.keyHash P (Str.ofString "Whitespace"), (.str (Str.ofString "Whitespace") 2415), (.ref 203)⟩].toArray 21), [].toArray⟩
noncomputable def h7_12 (P : Params) : Obj := ⟨.none, none, (.fields [(.int (1) 0), (.int (0) 0), (.ref 20), (.int (8) 0), (.int (0) 0), (.ref 27), (.int (14) 0), (.int (0) 0), (.ref 34), (.int (53) 0), (.int (0) 0), (.ref 41), (.int (98) 0), (.int (0) 0), (.ref 94), (.int (101) 0), (.int (0) 0), (.ref 140), (.int (107) 0), (.int (0) 0), (.ref 147)].toArray), [].toArray⟩
noncomputable def h7_146 (P : Params) : Obj := ⟨.none, none, (.fields [(.int (110) 0), (.int (4) 0), (.ref 157), (.int (133) 0), (.int (4) 0), (.ref 164), (.int (136) 0), (.int (4) 0), (.ref 171), (.int (143) 0), (.int (4) 0), (.ref 178), (.int (146) 0), (.int (4) 0), (.ref 185), (.int (149) 0), (.int (4) 0), (.ref 192), (.int (152) 0), (.int (4) 0), (.ref 199)].toArray), [].toArray⟩
noncomputable def h7_153 (P : Params) : Obj := ⟨.none, none, (.fields [].toArray), [].toArray⟩
noncomputable def h7_156 (P : Params) : Obj := ⟨.none, none, (.func { name := (Str.ofString "__init__"), qualname := (Str.ofString "Whitespace.__init__"), params := f15m1_args, body := .stmts f15m1_body, scope := f15m1_scope, globals := 0, closure := [], defaults := .none, kwdefaults := .none, doc := .none, pyModule := .none, annotations := none, code := .none, closureTuple := .none, builtins := 0 }), [].toArray⟩
noncomputable def h7_160 (P : Params) : Obj := ⟨.none, none, (.fields [].toArray), [].toArray⟩
noncomputable def h7_163 (P : Params) : Obj := ⟨.none, none, (.func { name := (Str.ofString "longest_run_of_spaces"), qualname := (Str.ofString "Whitespace.longest_run_of_spaces"), params := f15m2_args, body := .stmts f15m2_body, scope := f15m2_scope, globals := 0, closure := [], defaults := .none, kwdefaults := .none, doc := .none, pyModule := .none, annotations := none, code := .none, closureTuple := .none, builtins := 0 }), [].toArray⟩
noncomputable def h7_167 (P : Params) : Obj := ⟨.none, none, (.fields [].toArray), [].toArray⟩
noncomputable def h7_170 (P : Params) : Obj := ⟨.none, none, (.func { name := (Str.ofString "indent_level"), qualname := (Str.ofString "Whitespace.indent_level"), params := f15m3_args, body := .stmts f15m3_body, scope := f15m3_scope, globals := 0, closure := [], defaults := .none, kwdefaults := .none, doc := .none, pyModule := .none, annotations := none, code := .none, closureTuple := .none, builtins := 0 }), [].toArray⟩
noncomputable def h7_174 (P : Params) : Obj := ⟨.none, none, (.fields [].toArray), [].toArray⟩
noncomputable def h7_177 (P : Params) : Obj := ⟨.none, none, (.func { name := (Str.ofString "equal"), qualname := (Str.ofString "Whitespace.equal"), params := f15m4_args, body := .stmts f15m4_body, scope := f15m4_scope, globals := 0, closure := [], defaults := .none, kwdefaults := .none, doc := .none, pyModule := .none, annotations := none, code := .none, closureTuple := .none, builtins := 0 }), [].toArray⟩
noncomputable def h7_181 (P : Params) : Obj := ⟨.none, none, (.fields [].toArray), [].toArray⟩
noncomputable def h7_184 (P : Params) : Obj := ⟨.none, none, (.func { name := (Str.ofString "not_equal_witness"), qualname := (Str.ofString "Whitespace.not_equal_witness"), params := f15m5_args, body := .stmts f15m5_body, scope := f15m5_scope, globals := 0, closure := [], defaults := .none, kwdefaults := .none, doc := .none, pyModule := .none, annotations := none, code := .none, closureTuple := .none, builtins := 0 }), [].toArray⟩
noncomputable def h7_188 (P : Params) : Obj := ⟨.none, none, (.fields [].toArray), [].toArray⟩
noncomputable def h7_191 (P : Params) : Obj := ⟨.none, none, (.func { name := (Str.ofString "less"), qualname := (Str.ofString "Whitespace.less"), params := f15m6_args, body := .stmts f15m6_body, scope := f15m6_scope, globals := 0, closure := [], defaults := .none, kwdefaults := .none, doc := .none, pyModule := .none, annotations := none, code := .none, closureTuple := .none, builtins := 0 }), [].toArray⟩
noncomputable def h7_195 (P : Params) : Obj := ⟨.none, none, (.fields [].toArray), [].toArray⟩
noncomputable def h7_198 (P : Params) : Obj := ⟨.none, none, (.func { name := (Str.ofString "not_less_witness"), qualname := (Str.ofString "Whitespace.not_less_witness"), params := f15m7_args, body := .stmts f15m7_body, scope := f15m7_scope, globals := 0, closure := [], defaults := .none, kwdefaults := .none, doc := .none, pyModule := .none, annotations := none, code := .none, closureTuple := .none, builtins := 0 }), [].toArray⟩
noncomputable def hT7 (P : Params) : BT := (.node (boot_o_0 P) (.node (boot_o_1 P) (.node (h7_3 P) (.node (boot_o_7 P) (.node (o15 P) (.node (o31 P) (.node (o63 P) (.node ht127 .nil .nil) (.node (h7_191 P) .nil .nil)) (.node (o95 P) (.node (o159 P) .nil .nil) .nil)) (.node (h1_47 P) (.node (o79 P) (.node (o143 P) .nil .nil) (.node (o207 P) .nil .nil)) (.node ht111 (.node (o175 P) .nil .nil) .nil))) (.node (h0_23 P) (.node (o39 P) (.node (o71 P) (.node (o135 P) .nil .nil) (.node (o199 P) .nil .nil)) (.node ht103 (.node (h7_167 P) .nil .nil) .nil)) (.node (o55 P) (.node (o87 P) (.node (o151 P) .nil .nil) .nil) (.node ht119 (.node (o183 P) .nil .nil) .nil)))) (.node (o11 P) (.node (h0_19 P) (.node (o35 P) (.node (o67 P) (.node ht131 .nil .nil) (.node (h7_195 P) .nil .nil)) (.node ht99 (.node (h7_163 P) .nil .nil) .nil)) (.node (h1_51 P) (.node (o83 P) (.node (o147 P) .nil .nil) .nil) (.node ht115 (.node (o179 P) .nil .nil) .nil))) (.node (o27 P) (.node (o43 P) (.node (o75 P) (.node (h6_139 P) .nil .nil) (.node (o203 P) .nil .nil)) (.node ht107 (.node (o171 P) .nil .nil) .nil)) (.node (o59 P) (.node (o91 P) (.node (o155 P) .nil .nil) .nil) (.node ht123 (.node (o187 P) .nil .nil) .nil))))) (.node (boot_o_5 P) (.node (boot_o_9 P) (.node (o17 P) (.node (h0_33 P) (.node (h1_65 P) (.node ht129 .nil .nil) (.node (o193 P) .nil .nil)) (.node ht97 (.node (o161 P) .nil .nil) .nil)) (.node (o49 P) (.node (o81 P) (.node (o145 P) .nil .nil) .nil) (.node ht113 (.node (h7_177 P) .nil .nil) .nil))) (.node (o25 P) (.node (o41 P) (.node (o73 P) (.node (o137 P) .nil .nil) (.node (o201 P) .nil .nil)) (.node ht105 (.node (o169 P) .nil .nil) .nil)) (.node (o57 P) (.node (o89 P) (.node (h7_153 P) .nil .nil) .nil) (.node ht121 (.node (o185 P) .nil .nil) .nil)))) (.node (o13 P) (.node (o21 P) (.node (o37 P) (.node (o69 P) (.node ht133 .nil .nil) (.node (o197 P) .nil .nil)) (.node ht101 (.node (o165 P) .nil .nil) .nil)) (.node (o53 P) (.node (o85 P) (.node (o149 P) .nil .nil) .nil) (.node ht117 (.node (h7_181 P) .nil .nil) .nil))) (.node (o29 P) (.node (o45 P) (.node (o77 P) (.node (o141 P) .nil .nil) (.node (o205 P) .nil .nil)) (.node ht109 (.node (o173 P) .nil .nil) .nil)) (.node (h1_61 P) (.node (h4_93 P) (.node (o157 P) .nil .nil) .nil) (.node ht125 (.node (o189 P) .nil .nil) .nil)))))) (.node (boot_o_2 P) (.node (boot_o_4 P) (.node (boot_o_8 P) (.node (h0_16 P) (.node (o32 P) (.node (o64 P) (.node ht128 .nil .nil) (.node (o192 P) .nil .nil)) (.node (o96 P) (.node (h7_160 P) .nil .nil) .nil)) (.node (o48 P) (.node (o80 P) (.node (o144 P) .nil .nil) .nil) (.node ht112 (.node (o176 P) .nil .nil) .nil))) (.node (o24 P) (.node (h1_40 P) (.node (o72 P) (.node (h6_136 P) .nil .nil) (.node (o200 P) .nil .nil)) (.node ht104 (.node (o168 P) .nil .nil) .nil)) (.node (o56 P) (.node (o88 P) (.node (o152 P) .nil .nil) .nil) (.node ht120 (.node (h7_184 P) .nil .nil) .nil)))) (.node (h7_12 P) (.node (o20 P) (.node (o36 P) (.node (h1_68 P) (.node ht132 .nil .nil) (.node (o196 P) .nil .nil)) (.node ht100 (.node (o164 P) .nil .nil) .nil)) (.node (o52 P) (.node (o84 P) (.node (o148 P) .nil .nil) .nil) (.node ht116 (.node (o180 P) .nil .nil) .nil))) (.node (o28 P) (.node (h1_44 P) (.node (o76 P) (.node (o140 P) .nil .nil) (.node (o204 P) .nil .nil)) (.node ht108 (.node (o172 P) .nil .nil) .nil)) (.node (o60 P) (.node (o92 P) (.node (h7_156 P) .nil .nil) .nil) (.node ht124 (.node (h7_188 P) .nil .nil) .nil))))) (.node (boot_o_6 P) (.node (boot_o_10 P) (.node (o18 P) (.node (o34 P) (.node (o66 P) (.node ht130 .nil .nil) (.node (o194 P) .nil .nil)) (.node ht98 (.node (o162 P) .nil .nil) .nil)) (.node (o50 P) (.node (o82 P) (.node (h7_146 P) .nil .nil) .nil) (.node ht114 (.node (o178 P) .nil .nil) .nil))) (.node (h0_26 P) (.node (o42 P) (.node (o74 P) (.node (o138 P) .nil .nil) (.node (o202 P) .nil .nil)) (.node ht106 (.node (h7_170 P) .nil .nil) .nil)) (.node (h1_58 P) (.node (h4_90 P) (.node (o154 P) .nil .nil) .nil) (.node ht122 (.node (o186 P) .nil .nil) .nil)))) (.node (o14 P) (.node (o22 P) (.node (o38 P) (.node (o70 P) (.node ht134 .nil .nil) (.node (h7_198 P) .nil .nil)) (.node ht102 (.node (o166 P) .nil .nil) .nil)) (.node (h1_54 P) (.node (o86 P) (.node (o150 P) .nil .nil) .nil) (.node ht118 (.node (o182 P) .nil .nil) .nil))) (.node (h0_30 P) (.node (o46 P) (.node (o78 P) (.node (o142 P) .nil .nil) (.node (o206 P) .nil .nil)) (.node ht110 (.node (h7_174 P) .nil .nil) .nil)) (.node (o62 P) (.node (o94 P) (.node (o158 P) .nil .nil) .nil) (.node ht126 (.node (o190 P) .nil .nil) .nil)))))))
noncomputable def hS7 (w : World) (os : OsState) : SharedT := ⟨hT7 w.params, 208, hLife w.params, #[], boot_drawn, 2416, os⟩
noncomputable def hL7 : List Stmt := (PySem.Challenge.pw_uc0057_03.main.body.drop 15).take 1
noncomputable def h8_12 (P : Params) : Obj := ⟨.none, none, (.fields [(.int (1) 0), (.int (0) 0), (.ref 20), (.int (8) 0), (.int (0) 0), (.ref 27), (.int (14) 0), (.int (0) 0), (.ref 34), (.int (53) 0), (.int (0) 0), (.ref 41), (.int (98) 0), (.int (0) 0), (.ref 94), (.int (101) 0), (.int (0) 0), (.ref 140), (.int (107) 0), (.int (0) 0), (.ref 147), (.int (155) 0), (.int (0) 0), (.ref 213), (.int (160) 0), (.int (0) 0), (.ref 218), (.int (179) 0), (.int (0) 0), (.ref 223), (.int (181) 0), (.int (0) 0), (.ref 230), (.int (185) 0), (.int (0) 0), (.ref 235), (.int (194) 0), (.int (0) 0), (.ref 240), (.int (206) 0), (.int (0) 0), (.ref 245)].toArray), [].toArray⟩
noncomputable def h8_209 (P : Params) : Obj := ⟨.none, none, (.fields [].toArray), [].toArray⟩
noncomputable def h8_212 (P : Params) : Obj := ⟨.none, none, (.func { name := (Str.ofString "_law_lexer"), qualname := (Str.ofString "_law_lexer"), params := f17_args, body := .stmts f17_body, scope := f17_scope, globals := 0, closure := [], defaults := .none, kwdefaults := .none, doc := .none, pyModule := .none, annotations := none, code := .none, closureTuple := .none, builtins := 0 }), [].toArray⟩
noncomputable def h8_216 (P : Params) : Obj := ⟨.none, none, (.fields [].toArray), [].toArray⟩
noncomputable def h8_217 (P : Params) : Obj := ⟨.none, none, (.func { name := (Str.ofString "_law_spelled"), qualname := (Str.ofString "_law_spelled"), params := f18_args, body := .stmts f18_body, scope := f18_scope, globals := 0, closure := [], defaults := .none, kwdefaults := .none, doc := .none, pyModule := .none, annotations := none, code := .none, closureTuple := .none, builtins := 0 }), [].toArray⟩
noncomputable def h8_221 (P : Params) : Obj := ⟨.none, none, (.fields [].toArray), [].toArray⟩
noncomputable def h8_222 (P : Params) : Obj := ⟨.none, none, (.func { name := (Str.ofString "_law_kept"), qualname := (Str.ofString "_law_kept"), params := f19_args, body := .stmts f19_body, scope := f19_scope, globals := 0, closure := [], defaults := .none, kwdefaults := .none, doc := .none, pyModule := .none, annotations := none, code := .none, closureTuple := .none, builtins := 0 }), [].toArray⟩
noncomputable def h8_226 (P : Params) : Obj := ⟨.none, none, (.fields [].toArray), [].toArray⟩
noncomputable def h8_229 (P : Params) : Obj := ⟨.none, none, (.func { name := (Str.ofString "_law_lead"), qualname := (Str.ofString "_law_lead"), params := f20_args, body := .stmts f20_body, scope := f20_scope, globals := 0, closure := [], defaults := .none, kwdefaults := .none, doc := .none, pyModule := .none, annotations := none, code := .none, closureTuple := .none, builtins := 0 }), [].toArray⟩
noncomputable def h8_233 (P : Params) : Obj := ⟨.none, none, (.fields [].toArray), [].toArray⟩
noncomputable def h8_234 (P : Params) : Obj := ⟨.none, none, (.func { name := (Str.ofString "_law_far"), qualname := (Str.ofString "_law_far"), params := f21_args, body := .stmts f21_body, scope := f21_scope, globals := 0, closure := [], defaults := .none, kwdefaults := .none, doc := .none, pyModule := .none, annotations := none, code := .none, closureTuple := .none, builtins := 0 }), [].toArray⟩
noncomputable def h8_238 (P : Params) : Obj := ⟨.none, none, (.fields [].toArray), [].toArray⟩
noncomputable def h8_239 (P : Params) : Obj := ⟨.none, none, (.func { name := (Str.ofString "_law_dearest"), qualname := (Str.ofString "_law_dearest"), params := f22_args, body := .stmts f22_body, scope := f22_scope, globals := 0, closure := [], defaults := .none, kwdefaults := .none, doc := .none, pyModule := .none, annotations := none, code := .none, closureTuple := .none, builtins := 0 }), [].toArray⟩
noncomputable def h8_243 (P : Params) : Obj := ⟨.none, none, (.fields [].toArray), [].toArray⟩
noncomputable def h8_244 (P : Params) : Obj := ⟨.none, none, (.func { name := (Str.ofString "law"), qualname := (Str.ofString "law"), params := f23_args, body := .stmts f23_body, scope := f23_scope, globals := 0, closure := [], defaults := .none, kwdefaults := .none, doc := .none, pyModule := .none, annotations := none, code := .none, closureTuple := .none, builtins := 0 }), [].toArray⟩
noncomputable def hT8 (P : Params) : BT := (.node (boot_o_0 P) (.node (boot_o_1 P) (.node (o3 P) (.node (boot_o_7 P) (.node (o15 P) (.node (o31 P) (.node (o63 P) (.node ht127 .nil .nil) (.node (h7_191 P) .nil .nil)) (.node (o95 P) (.node (o159 P) .nil .nil) (.node (o223 P) .nil .nil))) (.node (h1_47 P) (.node (o79 P) (.node (o143 P) .nil .nil) (.node (o207 P) .nil .nil)) (.node ht111 (.node (o175 P) .nil .nil) (.node (h8_239 P) .nil .nil)))) (.node (h0_23 P) (.node (o39 P) (.node (o71 P) (.node (o135 P) .nil .nil) (.node (o199 P) .nil .nil)) (.node ht103 (.node (h7_167 P) .nil .nil) (.node (o231 P) .nil .nil))) (.node (o55 P) (.node (o87 P) (.node (o151 P) .nil .nil) (.node (o215 P) .nil .nil)) (.node ht119 (.node (o183 P) .nil .nil) .nil)))) (.node (o11 P) (.node (h0_19 P) (.node (o35 P) (.node (o67 P) (.node ht131 .nil .nil) (.node (h7_195 P) .nil .nil)) (.node ht99 (.node (h7_163 P) .nil .nil) (.node (o227 P) .nil .nil))) (.node (h1_51 P) (.node (o83 P) (.node (o147 P) .nil .nil) (.node (o211 P) .nil .nil)) (.node ht115 (.node (o179 P) .nil .nil) (.node (h8_243 P) .nil .nil)))) (.node (o27 P) (.node (o43 P) (.node (o75 P) (.node (h6_139 P) .nil .nil) (.node (o203 P) .nil .nil)) (.node ht107 (.node (o171 P) .nil .nil) (.node (o235 P) .nil .nil))) (.node (o59 P) (.node (o91 P) (.node (o155 P) .nil .nil) (.node (o219 P) .nil .nil)) (.node ht123 (.node (o187 P) .nil .nil) .nil))))) (.node (boot_o_5 P) (.node (boot_o_9 P) (.node (o17 P) (.node (h0_33 P) (.node (h1_65 P) (.node ht129 .nil .nil) (.node (o193 P) .nil .nil)) (.node ht97 (.node (o161 P) .nil .nil) (.node (o225 P) .nil .nil))) (.node (o49 P) (.node (o81 P) (.node (o145 P) .nil .nil) (.node (h8_209 P) .nil .nil)) (.node ht113 (.node (h7_177 P) .nil .nil) (.node (o241 P) .nil .nil)))) (.node (o25 P) (.node (o41 P) (.node (o73 P) (.node (o137 P) .nil .nil) (.node (o201 P) .nil .nil)) (.node ht105 (.node (o169 P) .nil .nil) (.node (h8_233 P) .nil .nil))) (.node (o57 P) (.node (o89 P) (.node (h7_153 P) .nil .nil) (.node (h8_217 P) .nil .nil)) (.node ht121 (.node (o185 P) .nil .nil) .nil)))) (.node (o13 P) (.node (o21 P) (.node (o37 P) (.node (o69 P) (.node ht133 .nil .nil) (.node (o197 P) .nil .nil)) (.node ht101 (.node (o165 P) .nil .nil) (.node (h8_229 P) .nil .nil))) (.node (o53 P) (.node (o85 P) (.node (o149 P) .nil .nil) (.node (o213 P) .nil .nil)) (.node ht117 (.node (h7_181 P) .nil .nil) (.node (o245 P) .nil .nil)))) (.node (o29 P) (.node (o45 P) (.node (o77 P) (.node (o141 P) .nil .nil) (.node (o205 P) .nil .nil)) (.node ht109 (.node (o173 P) .nil .nil) (.node (o237 P) .nil .nil))) (.node (h1_61 P) (.node (h4_93 P) (.node (o157 P) .nil .nil) (.node (h8_221 P) .nil .nil)) (.node ht125 (.node (o189 P) .nil .nil) .nil)))))) (.node (boot_o_2 P) (.node (boot_o_4 P) (.node (boot_o_8 P) (.node (h0_16 P) (.node (o32 P) (.node (o64 P) (.node ht128 .nil .nil) (.node (o192 P) .nil .nil)) (.node (o96 P) (.node (h7_160 P) .nil .nil) (.node (o224 P) .nil .nil))) (.node (o48 P) (.node (o80 P) (.node (o144 P) .nil .nil) (.node (o208 P) .nil .nil)) (.node ht112 (.node (o176 P) .nil .nil) (.node (o240 P) .nil .nil)))) (.node (o24 P) (.node (h1_40 P) (.node (o72 P) (.node (h6_136 P) .nil .nil) (.node (o200 P) .nil .nil)) (.node ht104 (.node (o168 P) .nil .nil) (.node (o232 P) .nil .nil))) (.node (o56 P) (.node (o88 P) (.node (o152 P) .nil .nil) (.node (h8_216 P) .nil .nil)) (.node ht120 (.node (h7_184 P) .nil .nil) .nil)))) (.node (h8_12 P) (.node (o20 P) (.node (o36 P) (.node (h1_68 P) (.node ht132 .nil .nil) (.node (o196 P) .nil .nil)) (.node ht100 (.node (o164 P) .nil .nil) (.node (o228 P) .nil .nil))) (.node (o52 P) (.node (o84 P) (.node (o148 P) .nil .nil) (.node (h8_212 P) .nil .nil)) (.node ht116 (.node (o180 P) .nil .nil) (.node (h8_244 P) .nil .nil)))) (.node (o28 P) (.node (h1_44 P) (.node (o76 P) (.node (o140 P) .nil .nil) (.node (o204 P) .nil .nil)) (.node ht108 (.node (o172 P) .nil .nil) (.node (o236 P) .nil .nil))) (.node (o60 P) (.node (o92 P) (.node (h7_156 P) .nil .nil) (.node (o220 P) .nil .nil)) (.node ht124 (.node (h7_188 P) .nil .nil) .nil))))) (.node (boot_o_6 P) (.node (boot_o_10 P) (.node (o18 P) (.node (o34 P) (.node (o66 P) (.node ht130 .nil .nil) (.node (o194 P) .nil .nil)) (.node ht98 (.node (o162 P) .nil .nil) (.node (h8_226 P) .nil .nil))) (.node (o50 P) (.node (o82 P) (.node (h7_146 P) .nil .nil) (.node (o210 P) .nil .nil)) (.node ht114 (.node (o178 P) .nil .nil) (.node (o242 P) .nil .nil)))) (.node (h0_26 P) (.node (o42 P) (.node (o74 P) (.node (o138 P) .nil .nil) (.node (o202 P) .nil .nil)) (.node ht106 (.node (h7_170 P) .nil .nil) (.node (h8_234 P) .nil .nil))) (.node (h1_58 P) (.node (h4_90 P) (.node (o154 P) .nil .nil) (.node (o218 P) .nil .nil)) (.node ht122 (.node (o186 P) .nil .nil) .nil)))) (.node (o14 P) (.node (o22 P) (.node (o38 P) (.node (o70 P) (.node ht134 .nil .nil) (.node (h7_198 P) .nil .nil)) (.node ht102 (.node (o166 P) .nil .nil) (.node (o230 P) .nil .nil))) (.node (h1_54 P) (.node (o86 P) (.node (o150 P) .nil .nil) (.node (o214 P) .nil .nil)) (.node ht118 (.node (o182 P) .nil .nil) (.node (o246 P) .nil .nil)))) (.node (h0_30 P) (.node (o46 P) (.node (o78 P) (.node (o142 P) .nil .nil) (.node (o206 P) .nil .nil)) (.node ht110 (.node (h7_174 P) .nil .nil) (.node (h8_238 P) .nil .nil))) (.node (o62 P) (.node (o94 P) (.node (o158 P) .nil .nil) (.node (h8_222 P) .nil .nil)) (.node ht126 (.node (o190 P) .nil .nil) .nil)))))))
noncomputable def hS8 (w : World) (os : OsState) : SharedT := ⟨hT8 w.params, 247, hLife w.params, #[], boot_drawn, 2468, os⟩
noncomputable def hL8 : List Stmt := (PySem.Challenge.pw_uc0057_03.main.body.drop 16).take 8
end Uc
end
section
namespace Uc
/-! exact runs: the tree x, at the top, goes in n steps from the heap h (k tokens drawn, standing at q) to h' with the value a -/
theorem segGo_add {tb : String → Option Builtin} {p : Program} {w : World} {n₀ : Nat} {ann : Option Value} {b : Nat} : ∀ {n m : Nat} {s s' s'' : Shared} {t t' t'' : Thread}, segGo tb p w n₀ ann b n s t = some (s', t') →
    segGo tb p w n₀ ann b m s' t' = some (s'', t'') → segGo tb p w n₀ ann b (n + m) s t = some (s'', t'')
  | 0, m, s, s', s'', t, t', t'', h, k => by
    obtain ⟨rfl, rfl⟩ : s = s' ∧ t = t' := by simpa [segGo] using h
    rw [Nat.zero_add]; exact k
  | n + 1, m, s, s', s'', t, t', t'', h, k => by
    rw [show n + 1 + m = n + m + 1 by (walk_at "O")]
    unfold segGo at h ⊢
    cases he : endAt b t with
    | some f => rw [he] at h; cases h
    | none =>
      rw [he] at h
      cases hk : stepOk n₀ ann t with
      | false => rw [hk] at h; cases h
      | true =>
        rw [hk] at h
        cases hs : step (denote tb) p w s t with
        | halt o s₂ => rw [hs] at h; cases h
        | go s₂ t₂ => rw [hs] at h; exact segGo_add h k
section
variable {w : World} {gens : Array GenState} {drawn : Drawn} {os : OsState}
noncomputable def Ru (w : World) (gens : Array GenState) (drawn : Drawn) (os : OsState) {α : Type} (x : Sem α) (h : Heap) (k : Nat) (q : Pos) (n : Nat) (a : α) (h' : Heap) (k' : Nat) (q' : Pos) : Prop :=
  ∀ (K : α → Sem Fin) (H : Value → Sem Fin) (gd : Bool → Bool) (lv : List Value → List Value),
    segGo treeTable PySem.Challenge.pw_uc0057_03 w 11 hAnn 1 n ⟨h, gens, drawn, k, os⟩ ⟨x.wrap K H gd lv, hCode, q, [topFrame hFp]⟩ = some (⟨h', gens, drawn, k', os⟩, ⟨K a, hCode, q', [topFrame hFp]⟩)
theorem Ru.pure {α : Type} {a : α} {h : Heap} {k : Nat} {q : Pos} : Ru w gens drawn os (.pure a) h k q 0 a h k q := fun _ _ _ _ => rfl
theorem Ru.pure' {α : Type} {a : α} {h : Heap} {k : Nat} {q : Pos} : Ru w gens drawn os (Pure.pure a) h k q 0 a h k q := fun _ _ _ _ => rfl
theorem Ru.bind {α β : Type} {x : Sem α} {f : α → Sem β} {a : α} {b : β} {h h1 h2 : Heap} {k k1 k2 : Nat} {q q1 q2 : Pos} {n m : Nat} (r1 : Ru w gens drawn os x h k q n a h1 k1 q1) (r2 : Ru w gens drawn os (f a) h1 k1 q1 m b h2 k2 q2) : Ru w gens drawn os (x >>= f) h k q (n + m) b h2 k2 q2 := fun K H gd lv => by
  rw [Sem.bind_eq_wrap', Sem.wrap_wrap]
  exact segGo_add (r1 _ _ _ _) (r2 K H gd lv)
theorem Ru.keep {α : Type} {x : Sem α} {vs : List Value} {a : α} {h h1 : Heap} {k k1 : Nat} {q q1 : Pos} {n : Nat} (r : Ru w gens drawn os x h k q n a h1 k1 q1) : Ru w gens drawn os (x.keep vs) h k q n a h1 k1 q1 := fun K H gd lv => by
  rw [Sem.keep_eq_wrap, Sem.wrap_wrap]
  exact r _ _ _ _
theorem Ru.holding {α : Type} {x : Sem α} {vs : List Value} {a : α} {h h1 : Heap} {k k1 : Nat} {q q1 : Pos} {n : Nat} (r : Ru w gens drawn os x h k q n a h1 k1 q1) : Ru w gens drawn os (holding vs x) h k q n a h1 k1 q1 := by
  unfold PySem.holding
  split
  · exact r
  · exact r.keep
theorem Ru.onRaise {α : Type} {x : Sem α} {f : Value → Sem Unit} {a : α} {h h1 : Heap} {k k1 : Nat} {q q1 : Pos} {n : Nat} (r : Ru w gens drawn os x h k q n a h1 k1 q1) : Ru w gens drawn os (x.onRaise f) h k q n a h1 k1 q1 := fun K H gd lv => by
  rw [Sem.onRaise_eq_wrap, Sem.wrap_wrap]
  exact r _ _ _ _
theorem Ru.rule {t : String} {h : Heap} {k : Nat} {q : Pos} : Ru w gens drawn os (PySem.rule t) h k q 1 () h k q := fun _ _ _ _ => rfl
theorem Ru.standAt {p : Pos} {h : Heap} {k : Nat} {q : Pos} : Ru w gens drawn os (standAt p) h k q 1 () h k p := fun _ _ _ _ => rfl
theorem Ru.fresh {h : Heap} {k : Nat} {q : Pos} : Ru w gens drawn os fresh h k q 1 k h (k + 1) q := fun _ _ _ _ => rfl
theorem Ru.alloc {o : Obj} {h : Heap} {k : Nat} {q : Pos} : Ru w gens drawn os (alloc o) h k q 1 h.objs.size (h.push o) k q := fun _ _ _ _ => rfl
theorem Ru.loadPart {a : Addr} {p : Option Value} {o : Obj} {h : Heap} {k : Nat} {q : Pos} (e : h.get? a = some o) : Ru w gens drawn os (loadPart a p) h k q 1 o h k q := fun K H gd lv => by
  show (match step _ _ _ _ _ with | .go s' t' => _ | .halt _ _ => none) = _
  simp only [PySem.loadPart, Sem.wrap, step, e]
  rfl
theorem Ru.updatePart {a : Addr} {p : Option Value} {f : Obj → Obj} {o : Obj} {h : Heap} {k : Nat} {q : Pos} (l : Nat.ble 11 a = true) (e : h.get? a = some o) : Ru w gens drawn os (updatePart a p f) h k q 1 () (h.update a f) k q := fun K H gd lv => by
  have ok : stepOk 11 hAnn (⟨(PySem.updatePart a p f).wrap K H gd lv, hCode, q, [topFrame hFp]⟩ : Thread) = true := by
    show (Thread.calm _ && (Nat.ble 11 a || a == mainNs || a == cStatics || hAnn == some (.ref a))) = true
    rw [l]
    rfl
  unfold segGo
  rw [ok]
  show (match step _ _ _ _ _ with | .go s' t' => _ | .halt _ _ => none) = _
  simp only [PySem.updatePart, Sem.wrap, step, e, Option.isSome_some, if_true]
  rfl
end
end Uc
end
section
namespace Uc
noncomputable def Heap.puts (h : Heap) (a : Addr) (o : Obj) : Heap := h.update a fun _ => o
theorem puts_puts (h : Heap) (a : Addr) (o o' : Obj) : Heap.puts (Heap.puts h a o) a o' = Heap.puts h a o' := by
  obtain ⟨objs, life⟩ := h
  simp only [Heap.puts, Heap.update, Heap.mk.injEq, and_true]
  apply Array.ext_getElem?
  intro i
  simp only [Array.getElem?_modify]
  by_cases h1 : a = i
  · subst h1; simp only [if_true, Option.map_map]; rfl
  · simp only [if_neg h1]
theorem puts_push (h : Heap) (o o' : Obj) : Heap.puts (h.push o) h.objs.size o' = h.push o' := by
  obtain ⟨objs, life⟩ := h
  simp only [Heap.puts, Heap.update, Heap.push, Heap.mk.injEq, and_true]
  apply Array.ext_getElem?
  intro i
  simp only [Array.getElem?_modify, Array.getElem?_push]
  by_cases h1 : objs.size = i
  · subst h1; simp
  · simp [h1, Ne.symm h1]
theorem puts_push_ne (h : Heap) {a : Addr} (o o' : Obj) (ha : a ≠ h.objs.size) : Heap.puts (h.push o) a o' = (Heap.puts h a o').push o := Heap.update_push h a _ o ha
theorem puts_size (h : Heap) (a : Addr) (o : Obj) : (Heap.puts h a o).objs.size = h.objs.size := Heap.size_update h a _
theorem puts_get {h : Heap} {a : Addr} {o o' : Obj} (e : h.get? a = some o) (hf : o'.isFreed = false) : (Heap.puts h a o').get? a = some o' := Heap.get?_update_self (fun _ => o') e hf
theorem puts_get_ne {h : Heap} {a b : Addr} {o' : Obj} (hab : a ≠ b) : (Heap.puts h a o').get? b = h.get? b := Heap.get?_update_other h _ hab
theorem update_puts {h : Heap} {a : Addr} {f : Obj → Obj} {o o' : Obj} (e : h.get? a = some o) (hf : f o = o') : h.update a f = Heap.puts h a o' := by
  obtain ⟨e1, _⟩ := Heap.get?_some_iff.mp e
  obtain ⟨objs, life⟩ := h
  simp only [Heap.puts, Heap.update, Heap.mk.injEq, and_true] at e1 ⊢
  apply Array.ext_getElem?
  intro i
  simp only [Array.getElem?_modify]
  by_cases h1 : a = i
  · subst h1; simp only [if_true, e1, Option.map_some, hf]
  · simp only [if_neg h1]
section
variable {w : World} {gens : Array GenState} {drawn : Drawn} {os : OsState}
noncomputable abbrev dObj (es : List DictEntry) (ep : Nat) : Obj := ⟨.type "dict", none, .dict es.toArray ep, [].toArray⟩
theorem Ru.dictEntries {a : Addr} {p : Option Value} {es : List DictEntry} {ep : Nat} {h : Heap} {k : Nat} {q : Pos} (e : h.get? a = some (dObj es ep)) : Ru w gens drawn os (dictEntries a p) h k q 1 es.toArray h k q :=
  Ru.bind (n := 1) (m := 0) (Ru.loadPart e) Ru.pure
theorem Ru.dictEpoch {a : Addr} {p : Option Value} {es : List DictEntry} {ep : Nat} {h : Heap} {k : Nat} {q : Pos} (e : h.get? a = some (dObj es ep)) : Ru w gens drawn os (dictEpoch a p) h k q 1 ep h k q :=
  Ru.bind (n := 1) (m := 0) (Ru.loadPart e) Ru.pure
theorem places_none {es : List DictEntry} {i : Int} (hn : ∀ e ∈ es, e.hash ≠ i) : placesWithHash es.toArray.size (fun j => es.toArray[j]?.map (·.hash)) i = [] := by
  unfold placesWithHash
  rw [List.filter_eq_nil_iff]
  intro j _
  show ¬ (Option.map (fun x => x.hash) es.toArray[j]? == some i) = true
  rw [List.getElem?_toArray]
  cases e : es[j]? with
  | none => simp
  | some x =>
    have := hn x (List.mem_of_getElem? e)
    simp only [Option.map_some, beq_iff_eq, Option.some.injEq]
    exact this
theorem Ru.dictFind {a : Addr} {es : List DictEntry} {ep : Nat} {i : Int} {t : Tok} {h : Heap} {k : Nat} {q : Pos} (e : h.get? a = some (dObj es ep)) (hn : ∀ e ∈ es, e.hash ≠ i) : Ru w gens drawn os (dictFind a (.int i t) i) h k q 1 none h k q := by
  refine Ru.holding ?_
  refine Ru.bind (n := 1) (m := 0) (Ru.dictEntries e) ?_
  (try dsimp only)
  rw [places_none hn]
  exact Ru.pure
theorem Ru.putKey {a : Addr} {p : Option Value} {es : List DictEntry} {ep : Nat} {x : DictEntry} {h : Heap} {k : Nat} {q : Pos} (l : Nat.ble 11 a = true) (e : h.get? a = some (dObj es ep)) (hl : es.length < 100000) :
    Ru w gens drawn os (updateDictKeys a (·.push x) p) h k q 3 () (Heap.puts h a (dObj (es ++ [x]) (ep + 1))) k q := by
  have hf : (Obj.mapDictKeys (·.push x)) (dObj es ep) = dObj (es ++ [x]) (ep + 1) := by
    show (⟨_, _, .dict (es.toArray.push x) (ep + 1), _⟩ : Obj) = _
    rw [List.push_toArray]
  refine Ru.bind (n := 1) (m := 2) (Ru.loadPart e) ?_
  refine Ru.bind (n := 1) (m := 1) (Ru.updatePart l e) ?_
  rw [update_puts e hf]
  refine Ru.bind (n := 1) (m := 0) (Ru.loadPart (puts_get e rfl)) ?_
  have : (dObj (es ++ [x]) (ep + 1)).data.pastItsLine = none := by
    show (if (es ++ [x]).toArray.size > sizeLine + 1 then some "dict:memory" else none) = none
    rw [if_neg]
    rw [List.size_toArray, List.length_append, List.length_singleton]
    unfold sizeLine
    (walk_at "O")
  rw [this]
  exact Ru.pure
theorem ru_hash {i : Int} {t : Tok} {h : Heap} {k : Nat} {q : Pos} (h0 : 0 ≤ i) (h1 : i < 2 ^ 32) : Ru w gens drawn os (pyHash (.int i t)) h k q 5 i h (k + 1) q := by
  have e : pyHashByItsType.reduced i = (Pure.pure i : Sem Int) := by
    unfold pyHashByItsType.reduced
    rw [if_pos (by simp only [Bool.and_eq_true, decide_eq_true_eq]; (walk_at "O")), if_neg (by simp only [beq_iff_eq]; (walk_at "O"))]
  have key : ∀ (w : World) (K : Int → Sem Fin) (H : Value → Sem Fin) (gd : Bool → Bool) (lv : List Value → List Value),
    PySem.W.Fast.tw3277212676724774461 PySem.W.Fast.tw14364793385576792824 PySem.Challenge.pw_uc0057_03 w 11 hAnn 1 5 ⟨h, gens, drawn, k, os⟩ ⟨(PySem.W.Fast.tw10540108854288196387 (.int i t)).wrap K H gd lv, hCode, q, [topFrame hFp]⟩ = some (⟨h, gens, drawn, k + 1, os⟩, ⟨(pyHashByItsType.reduced (rawHash i)).wrap K H gd lv, hCode, q, [topFrame hFp]⟩) := byRow2 "special-get-raises" (fun w K H gd lv => by kernel_rfl) (fun w K H gd lv => by kernel_rfl)
  intro K H gd lv
  have := key w K H gd lv
  have hr : rawHash i = i := by
    unfold rawHash
    (try dsimp only)
    have : ((i.natAbs : Int) % ((2 ^ 61 - 1 : Nat) : Int)) = i := by (walk_at "O")
    have hneg : ¬ i < 0 := by (walk_at "O")
    have h1 : ¬ (i == -1) = true := by rw [beq_iff_eq]; (walk_at "O")
    rw [this]
    simp only [if_neg hneg, if_neg h1]
  rw [← PySem.W.Fast.te3277212676724774461, ← PySem.W.Fast.te14364793385576792824, ← PySem.W.Fast.te10540108854288196387, hr, e] at this
  exact this
theorem Ru.dictSet {a : Addr} {es : List DictEntry} {ep : Nat} {i : Int} {t : Tok} {v : Value} {h : Heap} {k : Nat} {q : Pos} (h0 : 0 ≤ i) (h1 : i < 2 ^ 32) (l : Nat.ble 11 a = true) (e : h.get? a = some (dObj es ep)) (hn : ∀ e ∈ es, e.hash ≠ i) (hl : es.length < 100000) :
    Ru w gens drawn os (dictSet a (.int i t) v) h k q 10 () (Heap.puts h a (dObj (es ++ [⟨i, .int i t, v⟩]) (ep + 1))) (k + 1) q := by
  refine Ru.holding ?_
  refine Ru.bind (n := 5) (m := 5) (ru_hash h0 h1) ?_
  refine Ru.holding ?_
  refine Ru.bind (n := 1) (m := 4) (Ru.dictFind e hn) ?_
  refine Ru.bind (n := 1) (m := 3) Ru.rule ?_
  exact Ru.putKey l e hl
theorem Ru.dictPut {a : Addr} {es : List DictEntry} {ep : Nat} {i : Int} {t : Tok} {v : Value} {h : Heap} {k : Nat} {q : Pos} (l : Nat.ble 11 a = true) (e : h.get? a = some (dObj es ep)) (hn : ∀ e ∈ es, e.hash ≠ i) (hl : es.length < 100000) :
    Ru w gens drawn os (dictPut a i (.int i t) v) h k q 4 () (Heap.puts h a (dObj (es ++ [⟨i, .int i t, v⟩]) (ep + 1))) k q := by
  refine Ru.bind (n := 1) (m := 3) (Ru.dictFind e hn) ?_
  exact Ru.putKey l e hl
end
end Uc
end
section
namespace Uc
section
variable {w : World} {gens : Array GenState} {drawn : Drawn} {os : OsState}
theorem ru_forIn {β : Type} {q : Pos} {n : Nat} {body : β → PUnit → Sem (ForInStep PUnit)} : ∀ (l : List β) (hs : Nat → Heap) (ks : Nat → Nat) (N : Nat),
    (∀ j x, l[j]? = some x → Ru w gens drawn os (body x ⟨⟩) (hs j) (ks j) q n (.yield ⟨⟩) (hs (j + 1)) (ks (j + 1)) q) → N = l.length * n → Ru w gens drawn os (forIn l ⟨⟩ body) (hs 0) (ks 0) q N ⟨⟩ (hs l.length) (ks l.length) q
  | [], hs, ks, N, _, hN => by
    obtain rfl : N = 0 := by rw [hN, List.length_nil, Nat.zero_mul]
    exact Ru.pure'
  | x :: l, hs, ks, N, h, hN => by
    rw [List.forIn_cons]
    obtain rfl : N = n + l.length * n := by rw [hN, List.length_cons, Nat.succ_mul, Nat.add_comm]
    refine Ru.bind (h 0 x rfl) ?_
    exact ru_forIn l (fun j => hs (j + 1)) (fun j => ks (j + 1)) _ (fun j x hx => h (j + 1) x hx) rfl
structure IsPair (q : Pos) (p : Sem Value × Sem Value) (x : Int × Str) : Prop where
  key : ∀ {w gens drawn os h k}, Ru w gens drawn os p.1 h k q 1 (.int x.1 k) h (k + 1) q
  val : ∀ {w gens drawn os h k}, Ru w gens drawn os p.2 h k q 2 (.str x.2 k) h (k + 1) q
inductive PairsAre (q : Pos) : List (Sem Value × Sem Value) → List (Int × Str) → Prop
  | nil : PairsAre q [] []
  | cons {p x ps xs} : IsPair q p x → PairsAre q ps xs → PairsAre q (p :: ps) (x :: xs)
theorem PairsAre.length {q : Pos} {ps : List (Sem Value × Sem Value)} {xs : List (Int × Str)} (h : PairsAre q ps xs) : ps.length = xs.length := by
  induction h with
  | nil => rfl
  | cons _ _ ih => rw [List.length_cons, List.length_cons, ih]
theorem pairs_get {q : Pos} {ps : List (Sem Value × Sem Value)} {xs : List (Int × Str)} (h : PairsAre q ps xs) : ∀ {j : Nat} {p : Sem Value × Sem Value}, ps[j]? = some p → ∃ x, xs[j]? = some x ∧ IsPair q p x := by
  induction h with
  | nil => intro j p e; rw [List.getElem?_nil] at e; cases e
  | cons a _ ih =>
    intro j p e
    cases j with
    | zero => cases e; exact ⟨_, rfl, a⟩
    | succ j => exact ih e
noncomputable def Asc : Int → List (Int × Str) → Prop
  | _, [] => True
  | lo, x :: xs => lo < x.1 ∧ x.1 < 2 ^ 32 ∧ Asc x.1 xs
noncomputable def entL : Nat → List (Int × Str) → List DictEntry
  | _, [] => []
  | k, x :: xs => ⟨x.1, .int x.1 k, .str x.2 (k + 1)⟩ :: entL (k + 3) xs
noncomputable def entS : Nat → List (Int × Str) → List DictEntry
  | _, [] => []
  | k, x :: xs => ⟨x.1, .int x.1 k, .str x.2 (k + 1)⟩ :: entS (k + 2) xs
theorem entL_length : ∀ (k : Nat) (xs : List (Int × Str)), (entL k xs).length = xs.length
  | _, [] => rfl
  | k, _ :: xs => congrArg (· + 1) (entL_length (k + 3) xs)
theorem entS_length : ∀ (k : Nat) (xs : List (Int × Str)), (entS k xs).length = xs.length
  | _, [] => rfl
  | k, _ :: xs => congrArg (· + 1) (entS_length (k + 2) xs)
theorem Asc.at : ∀ {xs : List (Int × Str)} {lo : Int} {j : Nat} {x : Int × Str}, Asc lo xs → xs[j]? = some x → lo < x.1 ∧ x.1 < 2 ^ 32 ∧ ∀ i y, i < j → xs[i]? = some y → y.1 < x.1
  | [], _, _, _, _, e => by rw [List.getElem?_nil] at e; cases e
  | a :: xs, lo, 0, x, h, e => by
    cases e
    exact ⟨h.1, h.2.1, fun i _ hi => absurd hi (Nat.not_lt_zero _)⟩
  | a :: xs, lo, j + 1, x, h, e => by
    have ih := Asc.at h.2.2 (show xs[j]? = some x from e)
    refine ⟨Int.lt_trans h.1 ih.1, ih.2.1, fun i y hi ey => ?_⟩
    cases i with
    | zero => cases ey; exact ih.1
    | succ i => exact ih.2.2 i y (by (walk_at "O")) ey
theorem entL_at : ∀ {xs : List (Int × Str)} {k j : Nat} {x : Int × Str}, xs[j]? = some x → (entL k xs)[j]? = some ⟨x.1, .int x.1 (k + 3 * j), .str x.2 (k + 3 * j + 1)⟩
  | [], _, _, _, e => by rw [List.getElem?_nil] at e; cases e
  | a :: xs, k, 0, x, e => by cases e; rfl
  | a :: xs, k, j + 1, x, e => by
    show (entL (k + 3) xs)[j]? = _
    rw [entL_at (show xs[j]? = some x from e), show k + 3 + 3 * j = k + 3 * (j + 1) by (walk_at "O")]
theorem entS_at : ∀ {xs : List (Int × Str)} {k j : Nat} {x : Int × Str}, xs[j]? = some x → (entS k xs)[j]? = some ⟨x.1, .int x.1 (k + 2 * j), .str x.2 (k + 2 * j + 1)⟩
  | [], _, _, _, e => by rw [List.getElem?_nil] at e; cases e
  | a :: xs, k, 0, x, e => by cases e; rfl
  | a :: xs, k, j + 1, x, e => by
    show (entS (k + 2) xs)[j]? = _
    rw [entS_at (show xs[j]? = some x from e), show k + 2 + 2 * j = k + 2 * (j + 1) by (walk_at "O")]
theorem take_snoc {α : Type} {l : List α} {j : Nat} {x : α} (e : l[j]? = some x) : l.take (j + 1) = l.take j ++ [x] := by
  rw [List.take_add_one, e]; rfl
theorem hash_le {es : List DictEntry} {xs : List (Int × Str)} (hl : es.length = xs.length) (he : ∀ (j : Nat) (x : Int × Str), xs[j]? = some x → ∃ e, es[j]? = some e ∧ e.hash = x.1) {j : Nat} {i : Int} (hi : ∀ (a : Nat) (y : Int × Str), a < j → xs[a]? = some y → y.1 < i) : ∀ e ∈ es.take j, e.hash ≠ i := by
  intro e h
  obtain ⟨a, ha⟩ := List.getElem?_of_mem h
  rw [List.getElem?_take] at ha
  by_cases haj : a < j
  · rw [if_pos haj] at ha
    have hlt : a < xs.length := by rw [← hl]; exact (List.getElem?_eq_some_iff.mp ha).1
    obtain ⟨e', he', hh⟩ := he a xs[a] (List.getElem?_eq_getElem hlt)
    rw [ha] at he'
    cases he'
    have := hi a _ haj (List.getElem?_eq_getElem hlt)
    (walk_at "O")
  · rw [if_neg haj] at ha; cases ha
theorem ru_subLong {q : Pos} {ps : List (Sem Value × Sem Value)} {xs : List (Int × Str)} {h : Heap} {k : Nat} (hp : PairsAre q ps xs) (ha : Asc (-1) xs) (h15 : ¬ ps.length ≤ 15) (hl : xs.length < 100000) (l0 : 11 ≤ h.objs.size) :
    Ru w gens drawn os (subDict ps) h k q (2 + xs.length * 13) h.objs.size (h.push (dObj (entL k xs) xs.length)) (k + 3 * xs.length) q := by
  have l : Nat.ble 11 h.objs.size = true := Nat.ble_eq_true_of_le l0
  rw [show 2 + xs.length * 13 = 1 + (1 + (xs.length * 13 + 0)) by (walk_at "O")]
  refine Ru.bind Ru.alloc ?_
  refine Ru.bind (a := ()) (n := 1 + (xs.length * 13 + 0)) (m := 0) (Ru.holding ?_) Ru.pure'
  rw [if_neg h15]
  refine Ru.bind Ru.rule ?_
  have G : (h.push { cls := .type "dict", data := .dict #[] }).get? h.objs.size = some (dObj [] 0) := Heap.get?_push_size h rfl
  have e0 : h.push { cls := .type "dict", data := .dict #[] } = Heap.puts (h.push { cls := .type "dict", data := .dict #[] }) h.objs.size (dObj ((entL k xs).take 0) 0) := by
    rw [puts_push]; rfl
  have eN : h.push (dObj (entL k xs) xs.length) = Heap.puts (h.push { cls := .type "dict", data := .dict #[] }) h.objs.size (dObj ((entL k xs).take ps.length) ps.length) := by
    rw [puts_push, hp.length, List.take_of_length_le (by rw [entL_length]; exact Nat.le_refl _)]
  rw [eN, ← hp.length]
  generalize h.push { cls := .type "dict", data := .dict #[] } = h₁ at G e0 ⊢
  rw [e0, puts_puts]
  have key := ru_forIn (w := w) (gens := gens) (drawn := drawn) (os := os) (q := q) (n := 13) (body := fun (x : Sem Value × Sem Value) (_ : PUnit) => (do
      let kv ← x.1
      let vv ← holding [kv] x.2
      holding [kv, vv] (dictSet h.objs.size kv vv)
      pure (ForInStep.yield PUnit.unit) : Sem (ForInStep PUnit))) ps
    (fun j => Heap.puts h₁ h.objs.size (dObj ((entL k xs).take j) j)) (fun j => k + 3 * j) (ps.length * 13) (fun j p ep => by
      obtain ⟨x, ex, hx⟩ := pairs_get hp ep
      have hA := ha.at ex
      have hj : j < xs.length := (List.getElem?_eq_some_iff.mp ex).1
      refine Ru.bind (n := 1) (m := 12) hx.key ?_
      refine Ru.bind (n := 2) (m := 10) (Ru.holding hx.val) ?_
      refine Ru.bind (n := 10) (m := 0) (Ru.holding (Ru.dictSet (by (walk_at "O")) hA.2.1 l (puts_get G rfl) (hash_le (entL_length k xs) (fun a y ey => ⟨_, entL_at ey, rfl⟩) hA.2.2) (by rw [List.length_take, entL_length]; (walk_at "O")))) ?_
      rw [puts_puts, take_snoc (entL_at ex)]
      exact Ru.pure') rfl
  refine Ru.bind (a := PUnit.unit) (n := ps.length * 13) (m := 0) ?_ Ru.pure'
  exact key
end
end Uc
end
section
namespace Uc
section
variable {w : World} {gens : Array GenState} {drawn : Drawn} {os : OsState}
noncomputable def valS : Nat → List (Int × Str) → List (Value × Value)
  | _, [] => []
  | k, x :: xs => (.int x.1 k, .str x.2 (k + 1)) :: valS (k + 2) xs
theorem valS_length : ∀ (k : Nat) (xs : List (Int × Str)), (valS k xs).length = xs.length
  | _, [] => rfl
  | k, _ :: xs => congrArg (· + 1) (valS_length (k + 2) xs)
theorem valS_at : ∀ {xs : List (Int × Str)} {k j : Nat} {v : Value × Value}, (valS k xs)[j]? = some v → ∃ x, xs[j]? = some x ∧ v = (.int x.1 (k + 2 * j), .str x.2 (k + 2 * j + 1))
  | [], _, _, _, e => by rw [valS, List.getElem?_nil] at e; cases e
  | a :: xs, k, 0, x, e => by cases e; exact ⟨a, rfl, rfl⟩
  | a :: xs, k, j + 1, x, e => by
    obtain ⟨y, h1, h2⟩ := valS_at (xs := xs) (k := k + 2) (j := j) (v := x) e
    exact ⟨y, h1, by rw [h2, show k + 2 + 2 * j = k + 2 * (j + 1) by (walk_at "O")]⟩
theorem ru_evalPairs {q : Pos} {h : Heap} : ∀ {ps : List (Sem Value × Sem Value)} {xs : List (Int × Str)} {k : Nat}, PairsAre q ps xs →
    Ru w gens drawn os (evalPairs ps) h k q (xs.length * 3) (valS k xs) h (k + 2 * xs.length) q
  | _, _, k, .nil => Ru.pure'
  | _, _, k, .cons (x := x) (ps := ps) (xs := xs) a b => by
    rw [List.length_cons, show (xs.length + 1) * 3 = 1 + (2 + (xs.length * 3 + 0)) by (walk_at "O"), show k + 2 * (xs.length + 1) = k + 1 + 1 + 2 * xs.length by (walk_at "O")]
    refine Ru.bind a.key ?_
    refine Ru.bind (Ru.holding a.val) ?_
    exact Ru.bind (Ru.holding (ru_evalPairs b)) Ru.pure'
theorem ru_subShort {q : Pos} {ps : List (Sem Value × Sem Value)} {xs : List (Int × Str)} {h : Heap} {k : Nat} (hp : PairsAre q ps xs) (ha : Asc (-1) xs) (h15 : ps.length ≤ 15) (hl : xs.length < 100000) (l0 : 11 ≤ h.objs.size) :
    Ru w gens drawn os (subDict ps) h k q (1 + xs.length * 13) h.objs.size (h.push (dObj (entS k xs) xs.length)) (k + 3 * xs.length) q := by
  have l : Nat.ble 11 h.objs.size = true := Nat.ble_eq_true_of_le l0
  rw [show 1 + xs.length * 13 = 1 + (xs.length * 3 + (xs.length * 10 + 0)) by (walk_at "O")]
  refine Ru.bind Ru.alloc ?_
  refine Ru.bind (a := ()) (n := xs.length * 3 + (xs.length * 10 + 0)) (m := 0) (Ru.holding ?_) Ru.pure'
  rw [if_pos h15]
  refine Ru.bind (ru_evalPairs hp) ?_
  refine Ru.holding ?_
  have G : (h.push { cls := .type "dict", data := .dict #[] }).get? h.objs.size = some (dObj [] 0) := Heap.get?_push_size h rfl
  have e0 : h.push { cls := .type "dict", data := .dict #[] } = Heap.puts (h.push { cls := .type "dict", data := .dict #[] }) h.objs.size (dObj ((entS k xs).take 0) 0) := by
    rw [puts_push]; rfl
  have eN : h.push (dObj (entS k xs) xs.length) = Heap.puts (h.push { cls := .type "dict", data := .dict #[] }) h.objs.size (dObj ((entS k xs).take xs.length) xs.length) := by
    rw [puts_push, List.take_of_length_le (by rw [entS_length]; exact Nat.le_refl _)]
  rw [eN]
  generalize h.push { cls := .type "dict", data := .dict #[] } = h₁ at G e0 ⊢
  rw [e0, puts_puts]
  have key := ru_forIn (w := w) (gens := gens) (drawn := drawn) (os := os) (q := q) (n := 10) (body := fun (x : Value × Value) (_ : PUnit) => (do
      dictSet h.objs.size x.1 x.2
      pure (ForInStep.yield PUnit.unit) : Sem (ForInStep PUnit))) (valS k xs)
    (fun j => Heap.puts h₁ h.objs.size (dObj ((entS k xs).take j) j)) (fun j => k + 2 * xs.length + j) (xs.length * 10) (fun j p ep => by
      obtain ⟨x, ex, rfl⟩ := valS_at ep
      have hA := ha.at ex
      have hj : j < xs.length := (List.getElem?_eq_some_iff.mp ex).1
      refine Ru.bind (n := 10) (m := 0) (Ru.dictSet (by (walk_at "O")) hA.2.1 l (puts_get G rfl) (hash_le (entS_length k xs) (fun a y ey => ⟨_, entS_at ey, rfl⟩) hA.2.2) (by rw [List.length_take, entS_length]; (walk_at "O"))) ?_
      rw [puts_puts, take_snoc (entS_at ex)]
      exact Ru.pure') (by rw [valS_length])
  rw [valS_length, show k + 2 * xs.length + xs.length = k + 3 * xs.length by (walk_at "O")] at key
  exact Ru.bind (a := PUnit.unit) (n := xs.length * 10) (m := 0) key Ru.pure'
theorem dict_is : isSubtype (.type "dict") (.type "dict") = (pure true : Sem Bool) := by kernel_rfl
theorem dict_iter : typeLookup (.type "dict") (Str.ofString "__iter__") = (pure (some (.builtin "dict.__iter__")) : Sem (Option Value)) := by kernel_rfl
theorem Ru.from {α : Type} {x : Sem α} {a : α} {h h0 h1 : Heap} {k k1 : Nat} {q q1 : Pos} {n : Nat} (e : h = h0) (r : Ru w gens drawn os x h0 k q n a h1 k1 q1) : Ru w gens drawn os x h k q n a h1 k1 q1 := e ▸ r
theorem ru_merge {q : Pos} {d a : Addr} {es new : List DictEntry} {ep en : Nat} {h : Heap} {k : Nat} (l : Nat.ble 11 d = true) (hd : h.get? d = some (dObj es ep)) (ha : h.get? a = some (dObj new en)) (hda : d ≠ a) (hne : es ≠ []) (hs : (a == sysModules) = false)
    (hk : ∀ (j : Nat) (e : DictEntry), new[j]? = some e → (∃ i t, e.key = .int i t ∧ e.hash = i) ∧ (∀ x ∈ es, x.hash ≠ e.hash) ∧ ∀ (i : Nat) (x : DictEntry), i < j → new[i]? = some x → x.hash ≠ e.hash) (hl : es.length + new.length < 100000) :
    Ru w gens drawn os (mergeMapping d (.ref a) false) h k q (5 + new.length * 6) () (Heap.puts h d (dObj (es ++ new) (ep + new.length))) k q := by
  rw [show 5 + new.length * 6 = 1 + (1 + (0 + (1 + (1 + (1 + (new.length * 6 + 0)))))) by (walk_at "O")]
  unfold mergeMapping
  refine Ru.bind (a := true) (h1 := h) (k1 := k) (q1 := q) (n := 1) ?_ ?_
  · refine Ru.bind (n := 1) (m := 0) (a := .type "dict") (Ru.bind (n := 1) (m := 0) (Ru.loadPart ha) Ru.pure') ?_
    rw [dict_is]; exact Ru.pure'
  rw [if_pos rfl]
  refine Ru.bind (n := 1) (a := some (.builtin "dict.__iter__")) (h1 := h) (k1 := k) (q1 := q) ?_ ?_
  · refine Ru.bind (n := 1) (m := 0) (a := .type "dict") (Ru.bind (n := 1) (m := 0) (Ru.loadPart ha) Ru.pure') ?_
    rw [dict_iter]; exact Ru.pure'
  rw [beq_self_eq_true]
  refine Ru.bind (n := 0) (a := true) Ru.pure' ?_
  (try dsimp only)
  rw [if_neg (by rw [hs]; exact Bool.false_ne_true)]
  refine Ru.bind (n := 1) (Ru.dictEntries hd) ?_
  rw [if_neg (by cases es with | nil => exact absurd rfl hne | cons => simp)]
  refine Ru.bind (n := 1) (Ru.dictEntries ha) ?_
  refine Ru.bind (n := 1) (Ru.dictEpoch ha) ?_
  have e0 : h = Heap.puts h d (dObj (es ++ new.take 0) ep) := by
    obtain ⟨e1, _⟩ := Heap.get?_some_iff.mp hd
    obtain ⟨objs, life⟩ := h
    simp only [Heap.puts, Heap.update, Heap.mk.injEq, and_true] at e1 ⊢
    apply Array.ext_getElem?
    intro i
    simp only [Array.getElem?_modify]
    by_cases h1 : d = i
    · subst h1; simp only [if_true, e1, Option.map_some, List.take_zero, List.append_nil]
    · simp only [if_neg h1]
  have eN : Heap.puts h d (dObj (es ++ new) (ep + new.length)) = Heap.puts h d (dObj (es ++ new.take new.length) (ep + new.length)) := by rw [List.take_length]
  rw [eN]
  refine Ru.bind (a := PUnit.unit) (n := new.length * 6) (m := 0) ?_ Ru.pure'
  rw [List.size_toArray]
  refine Ru.from (e0.trans (by rw [Nat.add_zero] : _ = Heap.puts h d (dObj (es ++ new.take 0) (ep + 0)))) ?_
  have hlen : (List.range new.length).length = new.length := List.length_range
  have key := fun B hB => ru_forIn (w := w) (gens := gens) (drawn := drawn) (os := os) (q := q) (n := 6) (body := B) (List.range new.length)
    (fun j => Heap.puts h d (dObj (es ++ new.take j) (ep + j))) (fun _ => k) (new.length * 6) hB (by rw [hlen])
  rw [hlen] at key
  refine key _ (fun j i ej => ?_)
  have hj : j < new.length := by have := (List.getElem?_eq_some_iff.mp ej).1; rwa [List.length_range] at this
  obtain rfl : i = j := by rw [List.getElem?_range hj] at ej; exact (Option.some.inj ej).symm
  have eg : new[i]? = some new[i] := List.getElem?_eq_getElem hj
  obtain ⟨⟨iv, tv, hkey, hhash⟩, hk1, hk2⟩ := hk i _ eg
  have ha' : ∀ o, (Heap.puts h d o).get? a = some (dObj new en) := fun o => by rw [puts_get_ne hda]; exact ha
  refine Ru.bind (n := 1) (m := 5) (Ru.dictEntries (ha' _)) ?_
  rw [List.getElem?_toArray, eg]
  (try dsimp only)
  refine Ru.bind (n := 4) (m := 1) (Ru.holding (?_ : Ru _ _ _ _ _ _ _ _ _ () (Heap.puts h d (dObj (es ++ new.take (i + 1)) (ep + (i + 1)))) k q)) ?_
  · have hput := Ru.dictPut (w := w) (gens := gens) (drawn := drawn) (os := os) (a := d) (es := es ++ new.take i) (ep := ep + i) (i := iv) (t := tv) (v := new[i].val) (h := Heap.puts h d (dObj (es ++ new.take i) (ep + i))) (k := k) (q := q) l (puts_get hd rfl) (fun x hx => by
      rcases List.mem_append.mp hx with hx | hx
      · rw [← hhash]; exact hk1 x hx
      · obtain ⟨b, hb⟩ := List.getElem?_of_mem hx
        rw [List.getElem?_take] at hb
        by_cases hbi : b < i
        · rw [if_pos hbi] at hb
          rw [← hhash]
          exact hk2 b x hbi hb
        · rw [if_neg hbi] at hb; cases hb) (by rw [List.length_append, List.length_take]; (walk_at "O"))
    rw [puts_puts, List.append_assoc] at hput
    have ee : (⟨iv, .int iv tv, new[i].val⟩ : DictEntry) = new[i] := by
      have : new[i] = ⟨new[i].hash, new[i].key, new[i].val⟩ := rfl
      rw [this, hkey, hhash]
    rw [ee, ← take_snoc eg] at hput
    rw [hkey, hhash]
    exact hput
  · refine Ru.bind (n := 1) (m := 0) (Ru.dictEpoch (ha' _)) ?_
    rw [bne_self_eq_false, if_neg Bool.false_ne_true]
    exact Ru.pure'
end
end Uc
end
section
namespace Uc
section
variable {w : World} {gens : Array GenState} {drawn : Drawn} {os : OsState}
theorem PairsAre.take {q : Pos} {ps : List (Sem Value × Sem Value)} {xs : List (Int × Str)} (h : PairsAre q ps xs) : ∀ n, PairsAre q (ps.take n) (xs.take n) := by
  induction h with
  | nil => intro n; rw [List.take_nil, List.take_nil]; exact .nil
  | cons a _ ih =>
    intro n
    cases n with
    | zero => exact .nil
    | succ n => exact .cons a (ih n)
theorem PairsAre.drop {q : Pos} {ps : List (Sem Value × Sem Value)} {xs : List (Int × Str)} (h : PairsAre q ps xs) : ∀ n, PairsAre q (ps.drop n) (xs.drop n) := by
  induction h with
  | nil => intro n; rw [List.drop_nil, List.drop_nil]; exact .nil
  | cons a b ih =>
    intro n
    cases n with
    | zero => exact .cons a b
    | succ n => exact ih n
noncomputable abbrev Pair := Sem Value × Sem Value
noncomputable def someP (p : Pair) : Option (Sem Value) × Sem Value := (some p.1, p.2)
noncomputable def flushD (run : List Pair) (main : Option Addr) : Sem (Option Addr) :=
  if run.isEmpty = true then pure main
  else match main with
    | none => do
      let d ← subDict run
      pure (some d)
    | some d => do
      let sub ← holding [Value.ref d] (subDict run)
      (holding [Value.ref d, Value.ref sub] (mergeMapping d (Value.ref sub) false)).onRaise fun x => do
          let _ ← holding [Value.ref d, x] (runValue (Code.builtin "proto.let_go" { }))
          pure ()
      pure (some d)
noncomputable abbrev LoopB := (Option (Sem Value) × Sem Value) → (Option Addr × List Pair) → Sem (ForInStep (Option Addr × List Pair))
noncomputable def IsLoop (body : LoopB) : Prop := ∀ (p : Pair) (m : Option Addr) (r : List Pair), body (someP p) (m, r) =
  (if ((r ++ [p]).length == 17) = true then flushD (r ++ [p]) m >>= fun m' => pure (ForInStep.yield (m', [])) else pure (ForInStep.yield (m, r ++ [p])))
theorem loop_run {body : LoopB} (hb : IsLoop body) : ∀ (A : List Pair) (R : List (Option (Sem Value) × Sem Value)) (m : Option Addr) (r : List Pair), r.length + A.length < 17 →
    (forIn (A.map someP ++ R) (m, r) body : Sem _) = forIn R (m, r ++ A) body
  | [], R, m, r, _ => by rw [List.map_nil, List.nil_append, List.append_nil]
  | p :: A, R, m, r, h => by
    rw [List.length_cons] at h
    rw [List.map_cons, List.cons_append, List.forIn_cons, hb, if_neg (by rw [List.length_append, List.length_singleton, beq_iff_eq]; (walk_at "O"))]
    show (forIn (A.map someP ++ R) (m, r ++ [p]) body : Sem _) = _
    rw [loop_run hb A R m (r ++ [p]) (by rw [List.length_append, List.length_singleton]; (walk_at "O")), List.append_assoc, List.singleton_append]
theorem loop_flush {body : LoopB} (hb : IsLoop body) {A : List Pair} {R : List (Option (Sem Value) × Sem Value)} {m m' : Option Addr} (hA : A.length = 17) {h h1 h2 : Heap} {k k1 k2 : Nat} {q q2 : Pos} {n n' : Nat} {v : Option Addr × List Pair}
    (r1 : Ru w gens drawn os (flushD A m) h k q n m' h1 k1 q) (r2 : Ru w gens drawn os (forIn R (m', []) body) h1 k1 q n' v h2 k2 q2) :
    Ru w gens drawn os (forIn (A.map someP ++ R) (m, []) body) h k q (n + n') v h2 k2 q2 := by
  obtain ⟨A', p, rfl⟩ : ∃ A' p, A = A' ++ [p] := by
    rcases List.eq_nil_or_concat A with rfl | ⟨A', p, e⟩
    · cases hA
    · exact ⟨A', p, by rw [e, List.concat_eq_append]⟩
  rw [List.length_append, List.length_singleton] at hA
  rw [List.map_append, List.append_assoc, loop_run hb A' _ m [] (by simp only [List.length_nil]; (walk_at "O")), List.nil_append, List.map_singleton, List.singleton_append, List.forIn_cons, hb,
    if_pos (by rw [List.length_append, List.length_singleton, beq_iff_eq]; (walk_at "O"))]
  refine Ru.bind (m := n') (n := n) (a := .yield (m', [])) (Ru.bind (n := n) (m := 0) r1 Ru.pure') ?_
  exact r2
theorem Asc.mono : ∀ {xs : List (Int × Str)} {lo lo' : Int}, Asc lo xs → lo' ≤ lo → Asc lo' xs
  | [], _, _, _, _ => trivial
  | _ :: _, _, _, h, l => ⟨by have := h.1; (walk_at "O"), h.2⟩
theorem Asc.take : ∀ {xs : List (Int × Str)} {lo : Int} (n : Nat), Asc lo xs → Asc lo (xs.take n)
  | [], _, n, _ => by rw [List.take_nil]; trivial
  | _ :: _, _, 0, _ => trivial
  | _ :: _, _, n + 1, h => ⟨h.1, h.2.1, Asc.take n h.2.2⟩
theorem Asc.drop : ∀ {xs : List (Int × Str)} {lo : Int} (n : Nat), Asc lo xs → ∃ lo', lo ≤ lo' ∧ Asc lo' (xs.drop n) ∧ (∀ x ∈ xs.take n, x.1 ≤ lo')
  | [], lo, n, h => ⟨lo, Int.le_refl _, by rw [List.drop_nil]; trivial, fun x hx => by rw [List.take_nil] at hx; cases hx⟩
  | x :: xs, lo, 0, h => ⟨lo, Int.le_refl _, h, fun x hx => nomatch hx⟩
  | x :: xs, lo, n + 1, h => by
    obtain ⟨lo', h1, h2, h3⟩ := Asc.drop n h.2.2
    refine ⟨lo', by have := h.1; (walk_at "O"), h2, fun y hy => ?_⟩
    rcases List.mem_cons.mp hy with rfl | hy
    · exact h1
    · exact h3 y hy
theorem new_apart {es new : List DictEntry} {xs : List (Int × Str)} {lo : Int} (hn : new.length = xs.length) (hat : ∀ (j : Nat) (x : Int × Str), xs[j]? = some x → ∃ t v, new[j]? = some ⟨x.1, .int x.1 t, v⟩) (ha : Asc lo xs) (hes : ∀ e ∈ es, e.hash ≤ lo) :
    ∀ (j : Nat) (e : DictEntry), new[j]? = some e → (∃ i t, e.key = .int i t ∧ e.hash = i) ∧ (∀ x ∈ es, x.hash ≠ e.hash) ∧ ∀ (i : Nat) (x : DictEntry), i < j → new[i]? = some x → x.hash ≠ e.hash := by
  intro j e he
  have hj : j < xs.length := by rw [← hn]; exact (List.getElem?_eq_some_iff.mp he).1
  obtain ⟨t, v, h1⟩ := hat j xs[j] (List.getElem?_eq_getElem hj)
  rw [he] at h1
  cases h1
  have hA := ha.at (List.getElem?_eq_getElem hj)
  refine ⟨⟨_, _, rfl, rfl⟩, fun x hx => ?_, fun i x hi hx => ?_⟩
  · have := hes x hx
    have := hA.1
    show x.hash ≠ xs[j].1
    (walk_at "O")
  · have hi' : i < xs.length := by rw [← hn]; exact (List.getElem?_eq_some_iff.mp hx).1
    obtain ⟨t', v', h2⟩ := hat i xs[i] (List.getElem?_eq_getElem hi')
    rw [hx] at h2
    cases h2
    have := hA.2.2 i _ hi (List.getElem?_eq_getElem hi')
    show xs[i].1 ≠ xs[j].1
    (walk_at "O")
theorem entL_hash {k : Nat} {xs : List (Int × Str)} {e : DictEntry} (h : e ∈ entL k xs) : ∃ x ∈ xs, e.hash = x.1 := by
  induction xs generalizing k with
  | nil => cases h
  | cons x xs ih =>
    rcases List.mem_cons.mp h with rfl | h
    · exact ⟨x, .head _, rfl⟩
    · obtain ⟨y, hy, e⟩ := ih h; exact ⟨y, .tail _ hy, e⟩
theorem ru_flush {q : Pos} {A : List Pair} {xs : List (Int × Str)} {d : Addr} {es : List DictEntry} {ep : Nat} {h : Heap} {k : Nat} {lo : Int} (hp : PairsAre q A xs) (h17 : xs.length = 17) (ha : Asc lo xs) (hlo : -1 ≤ lo) (hd : h.get? d = some (dObj es ep)) (hes : ∀ e ∈ es, e.hash ≤ lo) (hne : es ≠ []) (hl : es.length < 90000) (l : 11 ≤ d) :
    Ru w gens drawn os (flushD A (some d)) h k q 330 (some d) ((Heap.puts h d (dObj (es ++ entL k xs) (ep + 17))).push (dObj (entL k xs) 17)) (k + 51) q := by
  have hdl := Heap.lt_size hd
  have l' : 11 ≤ h.objs.size := Nat.le_of_lt (Nat.lt_of_le_of_lt l hdl)
  have hA17 : A.length = 17 := by rw [hp.length, h17]
  unfold flushD
  rw [if_neg (by cases A with | nil => cases hA17 | cons => simp)]
  (try dsimp only)
  have hsub := ru_subLong (w := w) (gens := gens) (drawn := drawn) (os := os) (h := h) (k := k) hp (ha.mono hlo) (by rw [hA17]; (walk_at "O")) (by rw [h17]; (walk_at "O")) l'
  rw [h17] at hsub
  refine Ru.bind (n := 223) (m := 107) (Ru.holding hsub) ?_
  refine Ru.bind (n := 107) (m := 0) (a := ()) (Ru.onRaise (Ru.holding ?_)) Ru.pure'
  have hd' : (h.push (dObj (entL k xs) 17)).get? d = some (dObj es ep) := Heap.get?_push_of_some _ hd
  have hm := ru_merge (w := w) (gens := gens) (drawn := drawn) (os := os) (q := q) (k := k + 3 * 17) (d := d) (a := h.objs.size) (es := es) (new := entL k xs) (ep := ep) (en := 17) (h := h.push (dObj (entL k xs) 17))
    (Nat.ble_eq_true_of_le l) hd' (Heap.get?_push_size h rfl) (Nat.ne_of_lt hdl) hne (beq_eq_false_iff_ne.mpr (Nat.ne_of_gt (Nat.lt_of_lt_of_le (by decide) l'))) (new_apart (entL_length k xs) (fun j x e => ⟨_, _, entL_at e⟩) ha hes) (by rw [entL_length]; (walk_at "O"))
  rw [entL_length, h17, puts_push_ne _ _ _ (Nat.ne_of_lt hdl)] at hm
  exact hm
theorem ru_flushS {q : Pos} {A : List Pair} {xs : List (Int × Str)} {d : Addr} {es : List DictEntry} {ep : Nat} {h : Heap} {k : Nat} {lo : Int} (hp : PairsAre q A xs) (h0 : xs ≠ []) (h15 : xs.length ≤ 15) (ha : Asc lo xs) (hlo : -1 ≤ lo) (hd : h.get? d = some (dObj es ep)) (hes : ∀ e ∈ es, e.hash ≤ lo) (hne : es ≠ []) (hl : es.length < 90000) (l : 11 ≤ d) :
    Ru w gens drawn os (flushD A (some d)) h k q (6 + xs.length * 19) (some d) ((Heap.puts h d (dObj (es ++ entS k xs) (ep + xs.length))).push (dObj (entS k xs) xs.length)) (k + 3 * xs.length) q := by
  have hdl := Heap.lt_size hd
  have l' : 11 ≤ h.objs.size := Nat.le_of_lt (Nat.lt_of_le_of_lt l hdl)
  have hA : A.length = xs.length := hp.length
  unfold flushD
  rw [if_neg (by cases A with | nil => (cases xs with | nil => exact absurd rfl h0 | cons => cases hA) | cons => simp)]
  (try dsimp only)
  have hsub := ru_subShort (w := w) (gens := gens) (drawn := drawn) (os := os) (h := h) (k := k) hp (ha.mono hlo) (by rw [hA]; exact h15) (by (walk_at "O")) l'
  rw [show 6 + xs.length * 19 = (1 + xs.length * 13) + (5 + xs.length * 6) by (walk_at "O")]
  refine Ru.bind (Ru.holding hsub) ?_
  refine Ru.bind (n := 5 + xs.length * 6) (m := 0) (a := ()) (Ru.onRaise (Ru.holding ?_)) Ru.pure'
  have hd' : (h.push (dObj (entS k xs) xs.length)).get? d = some (dObj es ep) := Heap.get?_push_of_some _ hd
  have hm := ru_merge (w := w) (gens := gens) (drawn := drawn) (os := os) (q := q) (k := k + 3 * xs.length) (d := d) (a := h.objs.size) (es := es) (new := entS k xs) (ep := ep) (en := xs.length) (h := h.push (dObj (entS k xs) xs.length))
    (Nat.ble_eq_true_of_le l) hd' (Heap.get?_push_size h rfl) (Nat.ne_of_lt hdl) hne (beq_eq_false_iff_ne.mpr (Nat.ne_of_gt (Nat.lt_of_lt_of_le (by decide) l'))) (new_apart (entS_length k xs) (fun j x e => ⟨_, _, entS_at e⟩) ha hes) (by rw [entS_length]; (walk_at "O"))
  rw [entS_length, puts_push_ne _ _ _ (Nat.ne_of_lt hdl)] at hm
  exact hm
end
end Uc
end
section
namespace Uc
noncomputable def pushN : Nat → Heap → Nat → List (Int × Str) → Heap
  | 0, h, _, _ => h
  | n + 1, h, k, xs => pushN n (h.push (dObj (entL k (xs.take 17)) 17)) (k + 51) (xs.drop 17)
theorem entL_append : ∀ (k n : Nat) (xs : List (Int × Str)), n ≤ xs.length → entL k xs = entL k (xs.take n) ++ entL (k + 3 * n) (xs.drop n)
  | k, 0, xs, _ => rfl
  | k, n + 1, [], h => absurd h (by simp)
  | k, n + 1, x :: xs, h => by
    rw [List.take_succ_cons, List.drop_succ_cons, entL, entL, entL_append (k + 3) n xs (by simpa using h), show k + 3 + 3 * n = k + 3 * (n + 1) by (walk_at "O"), List.cons_append]
theorem puts_pushN : ∀ (n : Nat) (h : Heap) (k : Nat) (xs : List (Int × Str)) {d : Addr} (o : Obj), (d : Nat) < h.objs.size → Heap.puts (pushN n h k xs) d o = pushN n (Heap.puts h d o) k xs
  | 0, _, _, _, _, _, _ => rfl
  | n + 1, h, k, xs, d, o, hd => by
    have : (h.push (dObj (entL k (xs.take 17)) 17)).objs.size = h.objs.size + 1 := by cases h; simp [Heap.push]
    rw [pushN, pushN, puts_pushN n _ _ _ _ (by rw [this]; exact Nat.lt_succ_of_lt hd), puts_push_ne _ _ _ (Nat.ne_of_lt hd)]
section
variable {w : World} {gens : Array GenState} {drawn : Drawn} {os : OsState}
theorem ru_groups {body : LoopB} (hb : IsLoop body) {q : Pos} {d : Addr} (l : 11 ≤ d) : ∀ (N : Nat) {ps : List Pair} {xs : List (Int × Str)} {es : List DictEntry} {ep : Nat} {h : Heap} {k : Nat} {lo : Int}, PairsAre q ps xs → 17 * N ≤ xs.length → Asc lo xs → -1 ≤ lo → h.get? d = some (dObj es ep) → (∀ e ∈ es, e.hash ≤ lo) → es ≠ [] → es.length + 17 * N < 90000 →
    ∀ {n' k2 : Nat} {h2 : Heap} {q2 : Pos} {v : Option Addr × List Pair},
    Ru w gens drawn os (forIn ((ps.drop (17 * N)).map someP) (some d, []) body) (pushN N (Heap.puts h d (dObj (es ++ entL k (xs.take (17 * N))) (ep + 17 * N))) k xs) (k + 51 * N) q n' v h2 k2 q2 →
    Ru w gens drawn os (forIn (ps.map someP) (some d, []) body) h k q (330 * N + n') v h2 k2 q2
  | 0, ps, xs, es, ep, h, k, lo, hp, hN, ha, hlo, hd, hes, hne, hl, n', k2, h2, q2, v, r => by
    have e0 : Heap.puts h d (dObj (es ++ entL k (xs.take (17 * 0))) (ep + 17 * 0)) = h := by
      obtain ⟨e1, _⟩ := Heap.get?_some_iff.mp hd
      obtain ⟨objs, life⟩ := h
      simp only [Heap.puts, Heap.update, Heap.mk.injEq, and_true] at e1 ⊢
      apply Array.ext_getElem?
      intro i
      simp only [Array.getElem?_modify]
      by_cases h1 : d = i
      · subst h1; simp only [if_true, e1, Option.map_some, Nat.mul_zero, List.take_zero, entL, List.append_nil, Nat.add_zero]
      · simp only [if_neg h1]
    rw [pushN, e0] at r
    simp only [Nat.mul_zero, List.drop_zero, Nat.add_zero] at r
    rw [Nat.mul_zero, Nat.zero_add]
    exact r
  | N + 1, ps, xs, es, ep, h, k, lo, hp, hN, ha, hlo, hd, hes, hne, hl, n', k2, h2, q2, v, r => by
    have hxl : (xs.take 17).length = 17 := by rw [List.length_take]; (walk_at "O")
    have hpl : (ps.take 17).length = 17 := by rw [List.length_take, hp.length]; (walk_at "O")
    obtain ⟨lo', hlo', ha', hle⟩ := Asc.drop 17 ha
    have hf := ru_flush (w := w) (gens := gens) (drawn := drawn) (os := os) (k := k) (hp.take 17) hxl (ha.take 17) hlo hd hes hne (by (walk_at "O")) l
    have hdl := Heap.lt_size hd
    have e2 : ps.map someP = (ps.take 17).map someP ++ (ps.drop 17).map someP := by rw [← List.map_append, List.take_append_drop]
    rw [e2, show 330 * (N + 1) + n' = 330 + (330 * N + n') by (walk_at "O")]
    refine loop_flush hb hpl hf ?_
    have hdl' : (d : Nat) < (Heap.puts h d (dObj (es ++ entL k (xs.take 17)) (ep + 17))).objs.size := by rw [puts_size]; exact hdl
    refine ru_groups hb l N (lo := lo') (hp.drop 17) (by rw [List.length_drop]; (walk_at "O")) ha' (by (walk_at "O")) (Heap.get?_push_of_some _ (puts_get hd rfl)) (fun e he => ?_) (fun q => ?_) (by rw [List.length_append, entL_length, hxl]; (walk_at "O")) ?_
    · rcases List.mem_append.mp he with he | he
      · have := hes e he; (walk_at "O")
      · obtain ⟨x, hx, ex⟩ := entL_hash he
        have := hle x hx
        (walk_at "O")
    · rcases List.append_eq_nil_iff.mp q with ⟨q, _⟩
      exact hne q
    · rw [puts_push_ne _ _ _ (Nat.ne_of_lt hdl'), puts_puts, List.append_assoc]
      have e3 : entL k (xs.take 17) ++ entL (k + 51) ((xs.drop 17).take (17 * N)) = entL k (xs.take (17 * (N + 1))) := by
        rw [entL_append k 17 (xs.take (17 * (N + 1))) (by rw [List.length_take]; (walk_at "O")), List.take_take, show min 17 (17 * (N + 1)) = 17 by (walk_at "O"), List.drop_take, show 17 * (N + 1) - 17 = 17 * N by (walk_at "O")]
      rw [e3, List.drop_drop, show 17 + 17 * N = 17 * (N + 1) by (walk_at "O"), show ep + 17 + 17 * N = ep + 17 * (N + 1) by (walk_at "O"), show k + 51 + 51 * N = k + 51 * (N + 1) by (walk_at "O")]
      exact r
theorem ru_display {q : Pos} {ps : List Pair} {xs : List (Int × Str)} {h : Heap} {k N m : Nat} (hp : PairsAre q ps xs) (hx : xs.length = 17 * (N + 1) + m) (hm0 : 0 < m) (hm : m ≤ 15) (ha : Asc (-1) xs) (hl : xs.length < 80000) (l : 11 ≤ h.objs.size) :
    Ru w gens drawn os (dictDisplay (ps.map someP)) h k q (229 + 330 * N + m * 19) (.ref h.objs.size)
      ((pushN N (h.push (dObj (entL k (xs.take (17 * (N + 1))) ++ entS (k + 51 * (N + 1)) (xs.drop (17 * (N + 1)))) (17 * (N + 1) + m))) (k + 51) (xs.drop 17)).push (dObj (entS (k + 51 * (N + 1)) (xs.drop (17 * (N + 1)))) m)) (k + 51 * (N + 1) + 3 * m) q := by
  have hxl : (xs.take 17).length = 17 := by rw [List.length_take]; (walk_at "O")
  have hpl : (ps.take 17).length = 17 := by rw [List.length_take, hp.length]; (walk_at "O")
  obtain ⟨lo1, hlo1, ha1, hle1⟩ := Asc.drop 17 ha
  obtain ⟨lo2, hlo2, ha2, hle2⟩ := Asc.drop (17 * (N + 1)) ha
  have hs : (h.push (dObj (entL k (xs.take 17)) 17)).objs.size = h.objs.size + 1 := by cases h; simp [Heap.push]
  -- the first group
  have h1 : Ru w gens drawn os (flushD (ps.take 17) none) h k q 223 (some h.objs.size) (h.push (dObj (entL k (xs.take 17)) 17)) (k + 51) q := by
    unfold flushD
    rw [if_neg (by cases e : ps.take 17 with | nil => rw [e] at hpl; cases hpl | cons => simp)]
    (try dsimp only)
    have := ru_subLong (w := w) (gens := gens) (drawn := drawn) (os := os) (h := h) (k := k) (hp.take 17) (ha.take 17) (by rw [hpl]; (walk_at "O")) (by rw [hxl]; (walk_at "O")) l
    rw [hxl] at this
    exact Ru.bind (n := 223) (m := 0) this Ru.pure'
  have hd : (h.push (dObj (entL k (xs.take 17)) 17)).get? h.objs.size = some (dObj (entL k (xs.take 17)) 17) := Heap.get?_push_size h rfl
  have hdl : (xs.drop (17 * (N + 1))).length = m := by rw [List.length_drop]; (walk_at "O")
  have e2 : ps.map someP = (ps.take 17).map someP ++ (ps.drop 17).map someP := by rw [← List.map_append, List.take_append_drop]
  have e3 : entL k (xs.take 17) ++ entL (k + 51) ((xs.drop 17).take (17 * N)) = entL k (xs.take (17 * (N + 1))) := by
    rw [entL_append k 17 (xs.take (17 * (N + 1))) (by rw [List.length_take]; (walk_at "O")), List.take_take, show min 17 (17 * (N + 1)) = 17 by (walk_at "O"), List.drop_take, show 17 * (N + 1) - 17 = 17 * N by (walk_at "O")]
  have e4 : (ps.drop 17).drop (17 * N) = ps.drop (17 * (N + 1)) := by rw [List.drop_drop, show 17 + 17 * N = 17 * (N + 1) by (walk_at "O")]
  -- the short group's flush
  have hH : (pushN N (h.push (dObj (entL k (xs.take (17 * (N + 1)))) (17 * (N + 1)))) (k + 51) (xs.drop 17)).get? h.objs.size = some (dObj (entL k (xs.take (17 * (N + 1)))) (17 * (N + 1))) := by
    have key : ∀ (n : Nat) (H : Heap) (k : Nat) (xs : List (Int × Str)) (a : Addr) (o : Obj), H.get? a = some o → (pushN n H k xs).get? a = some o := fun n => by
      induction n with
      | zero => intro H k xs a o e; exact e
      | succ n ih => intro H k xs a o e; exact ih _ _ _ _ _ (Heap.get?_push_of_some _ e)
    exact key _ _ _ _ _ _ (Heap.get?_push_size h rfl)
  have hne : entL k (xs.take (17 * (N + 1))) ≠ [] := fun q => by
    have := congrArg List.length q
    rw [entL_length, List.length_take, List.length_nil] at this
    (walk_at "O")
  have h3 := ru_flushS (w := w) (gens := gens) (drawn := drawn) (os := os) (q := q) (A := ps.drop (17 * (N + 1))) (xs := xs.drop (17 * (N + 1))) (k := k + 51 * (N + 1)) (lo := lo2) (hp.drop _) (fun q => by rw [q] at hdl; simp at hdl; (walk_at "O")) (by rw [hdl]; exact hm) ha2 (by (walk_at "O")) hH
    (fun e he => by
      obtain ⟨x, hx, ex⟩ := entL_hash he
      have := hle2 x hx
      (walk_at "O")) hne (by rw [entL_length, List.length_take]; (walk_at "O")) l
  rw [hdl, puts_pushN _ _ _ _ _ (by cases h; simp [Heap.push]), puts_push] at h3
  rw [show 229 + 330 * N + m * 19 = 223 + (330 * N + 0) + (6 + m * 19) by (walk_at "O")]
  unfold dictDisplay
  (try dsimp only)
  refine Ru.bind (n := 223 + (330 * N + 0)) (m := 6 + m * 19) (a := (some h.objs.size, ps.drop (17 * (N + 1)))) (h1 := pushN N (h.push (dObj (entL k (xs.take (17 * (N + 1)))) (17 * (N + 1)))) (k + 51) (xs.drop 17)) (k1 := k + 51 * (N + 1)) (q1 := q) ?_ ?_
  · rw [e2]
    refine loop_flush (fun p m r => ?_) hpl h1 ?_
    · rfl
    · refine ru_groups (fun p m r => ?_) l N (lo := lo1) (hp.drop 17) (by rw [List.length_drop]; (walk_at "O")) ha1 hlo1 hd (fun e he => ?_) (fun q => ?_) (by rw [entL_length, hxl]; (walk_at "O")) ?_
      · rfl
      · obtain ⟨x, hx, ex⟩ := entL_hash he
        have := hle1 x hx
        (walk_at "O")
      · have := congrArg List.length q
        rw [entL_length, hxl] at this
        cases this
      · rw [puts_push, e3, e4, show 17 + 17 * N = 17 * (N + 1) by (walk_at "O"), show k + 51 + 51 * N = k + 51 * (N + 1) by (walk_at "O")]
        have hpd : (ps.drop (17 * (N + 1))).length = m := by rw [List.length_drop, hp.length]; (walk_at "O")
        have run : ∀ (body : LoopB), IsLoop body → Ru w gens drawn os (forIn ((ps.drop (17 * (N + 1))).map someP) (some h.objs.size, []) body) (pushN N (h.push (dObj (entL k (xs.take (17 * (N + 1)))) (17 * (N + 1)))) (k + 51) (xs.drop 17)) (k + 51 * (N + 1)) q 0 (some h.objs.size, ps.drop (17 * (N + 1))) (pushN N (h.push (dObj (entL k (xs.take (17 * (N + 1)))) (17 * (N + 1)))) (k + 51) (xs.drop 17)) (k + 51 * (N + 1)) q := fun body hb => by
          have := loop_run hb (ps.drop (17 * (N + 1))) [] (some h.objs.size) [] (by rw [hpd]; simp only [List.length_nil]; (walk_at "O"))
          rw [List.append_nil, List.nil_append] at this
          rw [this]
          exact Ru.pure'
        exact run _ (fun p m r => rfl)
  · refine Ru.bind (n := 6 + m * 19) (m := 0) (a := some h.objs.size) ?_ Ru.pure'
    exact h3
end
end Uc
end
section
namespace Uc
noncomputable def dataOf : List (Option Expr) → List Expr → List (Int × Str)
  | some (.Constant (.int k) _ _) :: ks, .Constant (.str v) _ _ :: vs => (k, v) :: dataOf ks vs
  | _, _ => []
noncomputable def keyOk : Option Expr → Bool
  | some (.Constant (.int _) _ _) => true
  | _ => false
noncomputable def valOk : Expr → Bool
  | .Constant (.str _) _ _ => true
  | _ => false
noncomputable def shapeOk : List (Option Expr) → List Expr → Bool
  | [] => fun vs => vs.isEmpty
  | k :: ks => fun vs => keyOk k && valOk (vs.headD (.Tuple [] 0 ⟨0, 0, 0, 0⟩)) && !vs.isEmpty && shapeOk ks vs.tail
theorem key_ok {k : Option Expr} (h : keyOk k = true) : ∃ i a b, k = some (.Constant (.int i) a b) := by
  unfold keyOk at h
  split at h
  · exact ⟨_, _, _, rfl⟩
  · cases h
theorem val_ok {e : Expr} (h : valOk e = true) : ∃ x a b, e = .Constant (.str x) a b := by
  unfold valOk at h
  split at h
  · exact ⟨_, _, _, rfl⟩
  · cases h
noncomputable def itemsOf (ks : List (Option Expr)) (vs : List Expr) (pos : Pos) (env : Env) : List (Option (Sem Value) × Sem Value) :=
  (evalEachOpt ks env).zip ((evalEach vs env).map fun v => do let x ← v; standAt pos; pure x)
theorem eval_const (c : Const) (a : _) (b : _) (env : Env) : eval (.Constant c a b) env = constValue env c := by kernel_rfl
theorem eval_dict (ks : List (Option Expr)) (vs : List Expr) (p : Pos) (env : Env) : eval (.Dict ks vs p) env = (standAt p >>= fun _ => dictDisplay (itemsOf ks vs p env)) := by kernel_rfl
theorem each_cons (e : Expr) (es : List Expr) (env : Env) : evalEach (e :: es) env = eval e env :: evalEach es env := by kernel_rfl
theorem eachO_cons (e : Expr) (es : List (Option Expr)) (env : Env) : evalEachOpt (some e :: es) env = some (eval e env) :: evalEachOpt es env := by kernel_rfl
theorem shape_cons {k : Option Expr} {ks : List (Option Expr)} {e : Expr} {vs : List Expr} (h : shapeOk (k :: ks) (e :: vs) = true) : ∃ i a b x a' b', k = some (.Constant (.int i) a b) ∧ e = .Constant (.str x) a' b' ∧ shapeOk ks vs = true := by
  replace h : (keyOk k && valOk e && true && shapeOk ks vs) = true := h
  rw [Bool.and_true, Bool.and_eq_true, Bool.and_eq_true] at h
  obtain ⟨i, a, b, e1⟩ := key_ok h.1.1
  obtain ⟨x, a', b', e2⟩ := val_ok h.1.2
  exact ⟨i, a, b, x, a', b', e1, e2, h.2⟩
theorem items_of {pos : Pos} {env : Env} : ∀ (ks : List (Option Expr)) (vs : List Expr), shapeOk ks vs = true → ∃ ps, itemsOf ks vs pos env = ps.map someP ∧ PairsAre pos ps (dataOf ks vs) := by
  intro ks
  induction ks with
  | nil =>
    intro vs h
    cases vs with
    | nil => exact ⟨[], rfl, .nil⟩
    | cons e vs => exact Bool.noConfusion h
  | cons k ks ih =>
    intro vs h
    cases vs with
    | nil =>
      replace h : (keyOk k && _ && false && _) = true := h
      rw [Bool.and_false, Bool.false_and] at h
      cases h
    | cons e vs =>
      obtain ⟨i, a, b, x, a', b', rfl, rfl, h⟩ := shape_cons h
      obtain ⟨ps, e, hp⟩ := ih vs h
      refine ⟨(constValue env (.int i), (do let y ← constValue env (.str x); standAt pos; pure y)) :: ps, ?_, .cons ⟨?_, ?_⟩ hp⟩
      · rw [List.map_cons, ← e]
        unfold itemsOf
        rw [eachO_cons, each_cons, eval_const, eval_const, List.map_cons, List.zip_cons_cons]
        rfl
      · intro w gens drawn os h k
        exact Ru.bind (n := 1) (m := 0) Ru.fresh Ru.pure'
      · intro w gens drawn os h k
        exact Ru.bind (n := 1) (m := 1) (Ru.bind (n := 1) (m := 0) Ru.fresh Ru.pure') (Ru.bind (n := 1) (m := 0) Ru.standAt Ru.pure')
noncomputable def ascB : Int → List (Int × Str) → Bool
  | _, [] => true
  | lo, x :: xs => decide (lo < x.1) && decide (x.1 < 2 ^ 32) && ascB x.1 xs
theorem asc_of : ∀ {lo : Int} {xs : List (Int × Str)}, ascB lo xs = true → Asc lo xs
  | _, [], _ => trivial
  | lo, x :: xs, h => by
    simp only [ascB, Bool.and_eq_true, decide_eq_true_eq] at h
    exact ⟨h.1.1, h.1.2, asc_of h.2⟩
noncomputable def insN : Nat → BT → Nat → Nat → List (Int × Str) → BT
  | 0, T, _, _, _ => T
  | n + 1, T, a, k, xs => insN n (T.ins a (dObj (entL k (xs.take 17)) 17)) (a + 1) (k + 51) (xs.drop 17)
noncomputable def insOk : Nat → BT → Nat → Nat → List (Int × Str) → Bool
  | 0, _, _, _, _ => true
  | n + 1, T, a, k, xs => ((T.ins a (dObj (entL k (xs.take 17)) 17)).get a).isSome && insOk n (T.ins a (dObj (entL k (xs.take 17)) 17)) (a + 1) (k + 51) (xs.drop 17)
theorem pushN_abs {life : Life} : ∀ (n : Nat) (T : BT) (a k : Nat) (xs : List (Int × Str)), insOk n T a k xs = true → pushN n (absHeap T a life) k xs = absHeap (insN n T a k xs) (a + n) life
  | 0, _, _, _, _, _ => rfl
  | n + 1, T, a, k, xs, h => by
    obtain ⟨h1, h2⟩ := Bool.and_eq_true_iff.mp h
    rw [pushN, insN, ← absHeap_ins h1, pushN_abs n _ _ _ _ h2, show a + 1 + n = a + (n + 1) by omega]
noncomputable abbrev tabXs : List (Int × Str) := dataOf tabKeys tabVals
theorem tab_shape : shapeOk tabKeys tabVals = true := by kernel_rfl
theorem tab_asc : ascB (-1) tabXs = true := by kernel_rfl
theorem tab_len : tabXs.length = 17 * (37 + 1) + 4 := by kernel_rfl
theorem tab_st : hL5 = [.Assign tabTg (.Dict tabKeys tabVals tabP) tabP0] := by kernel_rfl
noncomputable def restD (ts : List Expr) (ks : List (Option Expr)) (vs : List Expr) (p : Pos) (env : Env) (v : Value) : Sem Flow := do assignStores env v (← swappedStores ts (.Dict ks vs p) env) ((assignEach ts env).map (·.2))
theorem exec_dict {ts : List Expr} {ks : List (Option Expr)} {vs : List Expr} {p p0 : Pos} {env : Env} (h : swapsWithSole ts (.Dict ks vs p) p0.line env = (pure false : Sem Bool)) : exec (.Assign ts (.Dict ks vs p) p0) env = ((standAt p0 >>= fun _ => standAt p >>= fun _ => dictDisplay (itemsOf ks vs p env)) >>= restD ts ks vs p env) := by
  have e : exec (.Assign ts (.Dict ks vs p) p0) env = (standAt p0 >>= fun _ => swapsWithSole ts (.Dict ks vs p) p0.line env >>= fun b => if b = true then (do
      evalThenUse (.Dict ks vs p) env fun v => assignAll v ((assignEach ts env).map (·.2))
      pure .next) else (do
      let v ← eval (.Dict ks vs p) env
      assignStores env v (← swappedStores ts (.Dict ks vs p) env) ((assignEach ts env).map (·.2)))) := by kernel_rfl
  rw [e, h, eval_dict]
  rfl
theorem tab_swaps : swapsWithSole tabTg (.Dict tabKeys tabVals tabP) tabP0.line hEnv = (pure false : Sem Bool) := by kernel_rfl
end Uc
end
section
namespace Uc
noncomputable abbrev tabK1 : Nat := 359 + 51 * (37 + 1)
noncomputable def tabMain : Obj := dObj (entL 359 (tabXs.take (17 * (37 + 1))) ++ entS tabK1 (tabXs.drop (17 * (37 + 1)))) (17 * (37 + 1) + 4)
noncomputable def tabLast : Obj := dObj (entS tabK1 (tabXs.drop (17 * (37 + 1)))) 4
theorem tab_ok1 (P : Params) : (((hT4 P).ins 96 tabMain).get 96).isSome = true := by kernel_rfl
theorem tab_ok2 (P : Params) : insOk 37 ((hT4 P).ins 96 tabMain) 97 (359 + 51) (tabXs.drop 17) = true := by kernel_rfl
theorem tab_ok3 (P : Params) : (((insN 37 ((hT4 P).ins 96 tabMain) 97 (359 + 51) (tabXs.drop 17)).ins 134 tabLast).get 134).isSome = true := by kernel_rfl
theorem tab_tree (P : Params) : (insN 37 ((hT4 P).ins 96 tabMain) 97 (359 + 51) (tabXs.drop 17)).ins 134 tabLast = hTd P := by kernel_rfl
noncomputable def hSd (w : World) (os : OsState) : SharedT := ⟨hTd w.params, 135, hLife w.params, #[], boot_drawn, 2309, os⟩
theorem tab_value (w : World) (os : OsState) (q : Pos) : Ru w #[] boot_drawn os (standAt tabP0 >>= fun _ => standAt tabP >>= fun _ => dictDisplay (itemsOf tabKeys tabVals tabP hEnv)) (absHeap (hT4 w.params) 96 (hLife w.params)) 359 q 12517 (.ref 96) (absHeap (hTd w.params) 135 (hLife w.params)) 2309 tabP := by
  obtain ⟨ps, e, hp⟩ := items_of (pos := tabP) (env := hEnv) tabKeys tabVals tab_shape
  have hs : (absHeap (hT4 w.params) 96 (hLife w.params)).objs.size = 96 := absHeap_size ..
  have r := ru_display (w := w) (gens := #[]) (drawn := boot_drawn) (os := os) (h := absHeap (hT4 w.params) 96 (hLife w.params)) (k := 359) (N := 37) (m := 4) hp tab_len (by decide) (by decide) (asc_of tab_asc) (by rw [tab_len]; decide) (by rw [hs]; decide)
  have h1 : (absHeap (hT4 w.params) 96 (hLife w.params)).push tabMain = absHeap ((hT4 w.params).ins 96 tabMain) 97 (hLife w.params) := (absHeap_ins (tab_ok1 _)).symm
  have h2 := pushN_abs (life := hLife w.params) 37 ((hT4 w.params).ins 96 tabMain) 97 (359 + 51) (tabXs.drop 17) (tab_ok2 _)
  have h3 : (absHeap (insN 37 ((hT4 w.params).ins 96 tabMain) 97 (359 + 51) (tabXs.drop 17)) 134 (hLife w.params)).push tabLast = absHeap (hTd w.params) 135 (hLife w.params) := by
    rw [← absHeap_ins (tab_ok3 _), tab_tree]
  have hH : ((pushN 37 ((absHeap (hT4 w.params) 96 (hLife w.params)).push tabMain) (359 + 51) (tabXs.drop 17)).push tabLast) = absHeap (hTd w.params) 135 (hLife w.params) := by
    rw [h1, h2]; exact h3
  rw [hs, ← e] at r
  have r' : Ru w #[] boot_drawn os (dictDisplay (itemsOf tabKeys tabVals tabP hEnv)) (absHeap (hT4 w.params) 96 (hLife w.params)) 359 tabP 12515 (.ref 96) (absHeap (hTd w.params) 135 (hLife w.params)) 2309 tabP := by
    rw [← hH]; exact r
  exact Ru.bind (n := 1) (m := 12516) Ru.standAt (Ru.bind (n := 1) (m := 12515) Ru.standAt r')
theorem tab_tail (w : World) : (fun os => PySem.W.Fast.tw10110043849684766642 PySem.W.Fast.tw14364793385576792824 PySem.Challenge.pw_uc0057_03 w 11 hAnn 1 8 (hSd w os) ⟨(restD tabTg tabKeys tabVals tabP hEnv (.ref 96)).wrap (fun f => match f with | .next => (execs [] hEnv).wrap doneF deadEnd id id | f => doneF f) deadEnd id id, hCode, tabP, [topFrame hFp]⟩) = fun os => some (.next, hS5 w os, hCode, ⟨100, 0, 100, 13⟩) := by kernel_rfl
theorem hG5 (w : World) (os : OsState) : segRun treeTable PySem.Challenge.pw_uc0057_03 w 11 hAnn 1 12525 (hS4 w os).abs ⟨(execs hL5 hEnv).wrap doneF deadEnd id id, hCode, ⟨98, 0, 99, 30⟩, [topFrame hFp]⟩ = some (.next, (hS5 w os).abs, hCode, ⟨100, 0, 100, 13⟩) := by
  rw [tab_st, execs_cons_wrap, exec_dict tab_swaps, Sem.bind_eq_wrap', Sem.wrap_wrap]
  refine seg_go (n := 12517) (N := 8) (tab_value w os _ _ _ _ _) ?_
  have t := congrFun (tab_tail w) os
  rw [← PySem.W.Fast.te10110043849684766642, ← PySem.W.Fast.te14364793385576792824] at t
  exact segRun_of t
end Uc
end
section
namespace Uc
theorem hQ0 (w : World) : (fun os => PySem.W.Fast.tw10110043849684766642 PySem.W.Fast.tw14364793385576792824 PySem.Challenge.pw_uc0057_03 w 11 hAnn 1 147 (hSb w os) ⟨(PySem.W.Fast.tw12563942051412417395 hL0 hEnv).wrap doneF deadEnd id id, hCode, ⟨0, 0, 0, 0⟩, [topFrame hFp]⟩) = fun os => some (.next, hS0 w os, hCode, ⟨52, 0, 52, 8⟩) := by kernel_rfl
theorem hG0 (w : World) (os : OsState) : segRun treeTable PySem.Challenge.pw_uc0057_03 w 11 hAnn 1 147 (hSb w os).abs ⟨(execs hL0 hEnv).wrap doneF deadEnd id id, hCode, ⟨0, 0, 0, 0⟩, [topFrame hFp]⟩ = some (.next, (hS0 w os).abs, hCode, ⟨52, 0, 52, 8⟩) := by
  have t : (fun os => PySem.W.Fast.tw10110043849684766642 PySem.W.Fast.tw14364793385576792824 PySem.Challenge.pw_uc0057_03 w 11 hAnn 1 147 (hSb w os) ⟨(PySem.W.Fast.tw12563942051412417395 hL0 hEnv).wrap doneF deadEnd id id, hCode, ⟨0, 0, 0, 0⟩, [topFrame hFp]⟩) os = some (.next, hS0 w os, hCode, ⟨52, 0, 52, 8⟩) := congrFun (hQ0 w) os
  rw [← @PySem.W.Fast.te10110043849684766642, ← @PySem.W.Fast.te14364793385576792824, ← @PySem.W.Fast.te12563942051412417395] at t
  exact segRun_of t
theorem hQ1 (w : World) : (fun os => PySem.W.Fast.tw10110043849684766642 PySem.W.Fast.tw14364793385576792824 PySem.Challenge.pw_uc0057_03 w 11 hAnn 1 324 (hS0 w os) ⟨(PySem.W.Fast.tw12563942051412417395 hL1 hEnv).wrap doneF deadEnd id id, hCode, ⟨52, 0, 52, 8⟩, [topFrame hFp]⟩) = fun os => some (.next, hS1 w os, hCode, ⟨53, 0, 95, 35⟩) := by kernel_rfl
theorem hG1 (w : World) (os : OsState) : segRun treeTable PySem.Challenge.pw_uc0057_03 w 11 hAnn 1 324 (hS0 w os).abs ⟨(execs hL1 hEnv).wrap doneF deadEnd id id, hCode, ⟨52, 0, 52, 8⟩, [topFrame hFp]⟩ = some (.next, (hS1 w os).abs, hCode, ⟨53, 0, 95, 35⟩) := by
  have t : (fun os => PySem.W.Fast.tw10110043849684766642 PySem.W.Fast.tw14364793385576792824 PySem.Challenge.pw_uc0057_03 w 11 hAnn 1 324 (hS0 w os) ⟨(PySem.W.Fast.tw12563942051412417395 hL1 hEnv).wrap doneF deadEnd id id, hCode, ⟨52, 0, 52, 8⟩, [topFrame hFp]⟩) os = some (.next, hS1 w os, hCode, ⟨53, 0, 95, 35⟩) := congrFun (hQ1 w) os
  rw [← @PySem.W.Fast.te10110043849684766642, ← @PySem.W.Fast.te14364793385576792824, ← @PySem.W.Fast.te12563942051412417395] at t
  exact segRun_of t
theorem hQ2 (w : World) : (fun os => PySem.W.Fast.tw10110043849684766642 PySem.W.Fast.tw14364793385576792824 PySem.Challenge.pw_uc0057_03 w 11 hAnn 1 10 (hS1 w os) ⟨(PySem.W.Fast.tw12563942051412417395 hL2 hEnv).wrap doneF deadEnd id id, hCode, ⟨53, 0, 95, 35⟩, [topFrame hFp]⟩) = fun os => some (.next, hS2 w os, hCode, ⟨96, 0, 96, 8⟩) := by kernel_rfl
theorem hG2 (w : World) (os : OsState) : segRun treeTable PySem.Challenge.pw_uc0057_03 w 11 hAnn 1 10 (hS1 w os).abs ⟨(execs hL2 hEnv).wrap doneF deadEnd id id, hCode, ⟨53, 0, 95, 35⟩, [topFrame hFp]⟩ = some (.next, (hS2 w os).abs, hCode, ⟨96, 0, 96, 8⟩) := by
  have t : (fun os => PySem.W.Fast.tw10110043849684766642 PySem.W.Fast.tw14364793385576792824 PySem.Challenge.pw_uc0057_03 w 11 hAnn 1 10 (hS1 w os) ⟨(PySem.W.Fast.tw12563942051412417395 hL2 hEnv).wrap doneF deadEnd id id, hCode, ⟨53, 0, 95, 35⟩, [topFrame hFp]⟩) os = some (.next, hS2 w os, hCode, ⟨96, 0, 96, 8⟩) := congrFun (hQ2 w) os
  rw [← @PySem.W.Fast.te10110043849684766642, ← @PySem.W.Fast.te14364793385576792824, ← @PySem.W.Fast.te12563942051412417395] at t
  exact segRun_of t
noncomputable def hP3 (w : World) : Prop := (fun os => PySem.W.Fast.tw10110043849684766642 PySem.W.Fast.tw14364793385576792824 PySem.Challenge.pw_uc0057_03 w 11 hAnn 1 999 (hS2 w os) ⟨(PySem.W.Fast.tw12563942051412417395 hL3 hEnv).wrap doneF deadEnd id id, hCode, ⟨96, 0, 96, 8⟩, [topFrame hFp]⟩) = fun os => some (.next, hS3 w os, hCode, ⟨97, 0, 97, 6⟩)
theorem hP3ff (w : World) : hP3 ((w.withFollow "special-get-raises" false).withFollow "set-order" false) := by unfold hP3; kernel_rfl
theorem hP3ft (w : World) : hP3 ((w.withFollow "special-get-raises" true).withFollow "set-order" false) := by unfold hP3; kernel_rfl
theorem hP3tf (w : World) : hP3 ((w.withFollow "special-get-raises" false).withFollow "set-order" true) := by unfold hP3; kernel_rfl
theorem hP3tt (w : World) : hP3 ((w.withFollow "special-get-raises" true).withFollow "set-order" true) := by unfold hP3; kernel_rfl
theorem hQ3 (w : World) : hP3 w := byRow2 "set-order" (P := fun w => hP3 w) (fun w => byRow2 "special-get-raises" (P := fun w => hP3 (w.withFollow "set-order" false)) (fun w => hP3ff w) (fun w => hP3ft w) w) (fun w => byRow2 "special-get-raises" (P := fun w => hP3 (w.withFollow "set-order" true)) (fun w => hP3tf w) (fun w => hP3tt w) w) w
theorem hG3 (w : World) (os : OsState) : segRun treeTable PySem.Challenge.pw_uc0057_03 w 11 hAnn 1 999 (hS2 w os).abs ⟨(execs hL3 hEnv).wrap doneF deadEnd id id, hCode, ⟨96, 0, 96, 8⟩, [topFrame hFp]⟩ = some (.next, (hS3 w os).abs, hCode, ⟨97, 0, 97, 6⟩) := by
  have t : (fun os => PySem.W.Fast.tw10110043849684766642 PySem.W.Fast.tw14364793385576792824 PySem.Challenge.pw_uc0057_03 w 11 hAnn 1 999 (hS2 w os) ⟨(PySem.W.Fast.tw12563942051412417395 hL3 hEnv).wrap doneF deadEnd id id, hCode, ⟨96, 0, 96, 8⟩, [topFrame hFp]⟩) os = some (.next, hS3 w os, hCode, ⟨97, 0, 97, 6⟩) := congrFun (hQ3 w) os
  rw [← @PySem.W.Fast.te10110043849684766642, ← @PySem.W.Fast.te14364793385576792824, ← @PySem.W.Fast.te12563942051412417395] at t
  exact segRun_of t
theorem hQ4 (w : World) : (fun os => PySem.W.Fast.tw10110043849684766642 PySem.W.Fast.tw14364793385576792824 PySem.Challenge.pw_uc0057_03 w 11 hAnn 1 30 (hS3 w os) ⟨(PySem.W.Fast.tw12563942051412417395 hL4 hEnv).wrap doneF deadEnd id id, hCode, ⟨97, 0, 97, 6⟩, [topFrame hFp]⟩) = fun os => some (.next, hS4 w os, hCode, ⟨98, 0, 99, 30⟩) := by kernel_rfl
theorem hG4 (w : World) (os : OsState) : segRun treeTable PySem.Challenge.pw_uc0057_03 w 11 hAnn 1 30 (hS3 w os).abs ⟨(execs hL4 hEnv).wrap doneF deadEnd id id, hCode, ⟨97, 0, 97, 6⟩, [topFrame hFp]⟩ = some (.next, (hS4 w os).abs, hCode, ⟨98, 0, 99, 30⟩) := by
  have t : (fun os => PySem.W.Fast.tw10110043849684766642 PySem.W.Fast.tw14364793385576792824 PySem.Challenge.pw_uc0057_03 w 11 hAnn 1 30 (hS3 w os) ⟨(PySem.W.Fast.tw12563942051412417395 hL4 hEnv).wrap doneF deadEnd id id, hCode, ⟨97, 0, 97, 6⟩, [topFrame hFp]⟩) os = some (.next, hS4 w os, hCode, ⟨98, 0, 99, 30⟩) := congrFun (hQ4 w) os
  rw [← @PySem.W.Fast.te10110043849684766642, ← @PySem.W.Fast.te14364793385576792824, ← @PySem.W.Fast.te12563942051412417395] at t
  exact segRun_of t
theorem hQ6 (w : World) : (fun os => PySem.W.Fast.tw10110043849684766642 PySem.W.Fast.tw14364793385576792824 PySem.Challenge.pw_uc0057_03 w 11 hAnn 1 40 (hS5 w os) ⟨(PySem.W.Fast.tw12563942051412417395 hL6 hEnv).wrap doneF deadEnd id id, hCode, ⟨100, 0, 100, 13⟩, [topFrame hFp]⟩) = fun os => some (.next, hS6 w os, hCode, ⟨106, 0, 106, 8⟩) := by kernel_rfl
theorem hG6 (w : World) (os : OsState) : segRun treeTable PySem.Challenge.pw_uc0057_03 w 11 hAnn 1 40 (hS5 w os).abs ⟨(execs hL6 hEnv).wrap doneF deadEnd id id, hCode, ⟨100, 0, 100, 13⟩, [topFrame hFp]⟩ = some (.next, (hS6 w os).abs, hCode, ⟨106, 0, 106, 8⟩) := by
  have t : (fun os => PySem.W.Fast.tw10110043849684766642 PySem.W.Fast.tw14364793385576792824 PySem.Challenge.pw_uc0057_03 w 11 hAnn 1 40 (hS5 w os) ⟨(PySem.W.Fast.tw12563942051412417395 hL6 hEnv).wrap doneF deadEnd id id, hCode, ⟨100, 0, 100, 13⟩, [topFrame hFp]⟩) os = some (.next, hS6 w os, hCode, ⟨106, 0, 106, 8⟩) := congrFun (hQ6 w) os
  rw [← @PySem.W.Fast.te10110043849684766642, ← @PySem.W.Fast.te14364793385576792824, ← @PySem.W.Fast.te12563942051412417395] at t
  exact segRun_of t
noncomputable def hP7 (w : World) : Prop := (fun os => PySem.W.Fast.tw10110043849684766642 PySem.W.Fast.tw14364793385576792824 PySem.Challenge.pw_uc0057_03 w 11 hAnn 1 489 (hS6 w os) ⟨(PySem.W.Fast.tw12563942051412417395 hL7 hEnv).wrap doneF deadEnd id id, hCode, ⟨106, 0, 106, 8⟩, [topFrame hFp]⟩) = fun os => some (.next, hS7 w os, hCode, ⟨107, 0, 153, 16⟩)
theorem hP7f (w : World) : hP7 (w.withFollow "special-get-raises" false) := by unfold hP7; kernel_rfl
theorem hP7t (w : World) : hP7 (w.withFollow "special-get-raises" true) := by unfold hP7; kernel_rfl
theorem hQ7 (w : World) : hP7 w := byRow2 "special-get-raises" (P := fun w => hP7 w) (fun w => hP7f w) (fun w => hP7t w) w
theorem hG7 (w : World) (os : OsState) : segRun treeTable PySem.Challenge.pw_uc0057_03 w 11 hAnn 1 489 (hS6 w os).abs ⟨(execs hL7 hEnv).wrap doneF deadEnd id id, hCode, ⟨106, 0, 106, 8⟩, [topFrame hFp]⟩ = some (.next, (hS7 w os).abs, hCode, ⟨107, 0, 153, 16⟩) := by
  have t : (fun os => PySem.W.Fast.tw10110043849684766642 PySem.W.Fast.tw14364793385576792824 PySem.Challenge.pw_uc0057_03 w 11 hAnn 1 489 (hS6 w os) ⟨(PySem.W.Fast.tw12563942051412417395 hL7 hEnv).wrap doneF deadEnd id id, hCode, ⟨106, 0, 106, 8⟩, [topFrame hFp]⟩) os = some (.next, hS7 w os, hCode, ⟨107, 0, 153, 16⟩) := congrFun (hQ7 w) os
  rw [← @PySem.W.Fast.te10110043849684766642, ← @PySem.W.Fast.te14364793385576792824, ← @PySem.W.Fast.te12563942051412417395] at t
  exact segRun_of t
theorem hQ8 (w : World) : (fun os => PySem.W.Fast.tw10110043849684766642 PySem.W.Fast.tw14364793385576792824 PySem.Challenge.pw_uc0057_03 w 11 hAnn 1 204 (hS7 w os) ⟨(PySem.W.Fast.tw12563942051412417395 hL8 hEnv).wrap doneF deadEnd id id, hCode, ⟨107, 0, 153, 16⟩, [topFrame hFp]⟩) = fun os => some (.next, hS8 w os, hCode, ⟨206, 0, 243, 47⟩) := by kernel_rfl
theorem hG8 (w : World) (os : OsState) : segRun treeTable PySem.Challenge.pw_uc0057_03 w 11 hAnn 1 204 (hS7 w os).abs ⟨(execs hL8 hEnv).wrap doneF deadEnd id id, hCode, ⟨107, 0, 153, 16⟩, [topFrame hFp]⟩ = some (.next, (hS8 w os).abs, hCode, ⟨206, 0, 243, 47⟩) := by
  have t : (fun os => PySem.W.Fast.tw10110043849684766642 PySem.W.Fast.tw14364793385576792824 PySem.Challenge.pw_uc0057_03 w 11 hAnn 1 204 (hS7 w os) ⟨(PySem.W.Fast.tw12563942051412417395 hL8 hEnv).wrap doneF deadEnd id id, hCode, ⟨107, 0, 153, 16⟩, [topFrame hFp]⟩) os = some (.next, hS8 w os, hCode, ⟨206, 0, 243, 47⟩) := congrFun (hQ8 w) os
  rw [← @PySem.W.Fast.te10110043849684766642, ← @PySem.W.Fast.te14364793385576792824, ← @PySem.W.Fast.te12563942051412417395] at t
  exact segRun_of t
theorem hOpening : opening PySem.Challenge.pw_uc0057_03 = plainProg PySem.Challenge.pw_uc0057_03.main.scope.names := by rfl
theorem hFence : ∀ s, fenceModules? PySem.Challenge.pw_uc0057_03 s = some s := fun s => by rfl
theorem hOpen : ∀ w : World, (fencedOpening treeTable PySem.Challenge.pw_uc0057_03 w 40000).map (fun s => (s.heap, s.gens, s.drawn, s.toks)) = some (boot_heap w.params, Array.mk [], boot_drawn, boot_toks) := boot_open hOpening (by decide) hFence
theorem hSize (w : World) : (((boot_heap w.params).isNs mainGlobals && (Array.mk [] : Array GenState).size == 0, (boot_heap w.params).objs.size, (boot_heap w.params).nsMap mainGlobals "__annotations__") : Bool × Nat × Option Value) = (true, 11, hAnn) := by kernel_rfl
theorem hPre (w : World) : (fun os => PySem.W.Fast.tw15667345088766844465 PySem.W.Fast.tw14364793385576792824 PySem.Challenge.pw_uc0057_03 w 11 hAnn 12 ⟨boot_heap w.params, Array.mk [], boot_drawn, boot_toks, os⟩ (topStub PySem.Challenge.pw_uc0057_03)) = fun os => some ((hSa w os).abs, ⟨PySem.W.Fast.tw11892475500146522536 PySem.W.Fast.tw14364793385576792824 hCode, hCode, ⟨0, 0, 0, 0⟩, [topFrame hFp]⟩) := by kernel_rfl
theorem hBlock (w : World) : (fun os => segRun treeTable PySem.Challenge.pw_uc0057_03 w 11 hAnn 1 1 (hSa w os).abs (blockOf (behindTheImports PySem.Challenge.pw_uc0057_03) hEnv hCode ⟨0, 0, 0, 0⟩ [topFrame hFp])) = fun os => some (.next, (hSb w os).abs, hCode, ⟨0, 0, 0, 0⟩) := by kernel_rfl
noncomputable def hH (P : Params) : Heap := absHeap (hT8 P) 247 (hLife P)
noncomputable abbrev hFinS (w : World) (os : OsState) : Shared := ⟨hH w.params, #[], boot_drawn, 2468, os⟩
theorem hFin (w : World) : (fun os => topRun treeTable PySem.Challenge.pw_uc0057_03 w 11 hAnn 2 (hS8 w os).abs ⟨doneF .next, hCode, ⟨206, 0, 243, 47⟩, [topFrame hFp]⟩) = fun os => some (hFinS w os) := by kernel_rfl
theorem hBody : behindTheImports PySem.Challenge.pw_uc0057_03 = (hL0 ++ (hL1 ++ (hL2 ++ (hL3 ++ (hL4 ++ (hL5 ++ (hL6 ++ (hL7 ++ (hL8 ++ []))))))))) := by kernel_rfl
theorem hRun (w : World) (os : OsState) : topRun treeTable PySem.Challenge.pw_uc0057_03 w 11 hAnn (12 + (1 + (147 + (324 + (10 + (999 + (30 + (12525 + (40 + (489 + (204 + 2))))))))))) ⟨boot_heap w.params, Array.mk [], boot_drawn, boot_toks, os⟩ (topStub PySem.Challenge.pw_uc0057_03) = some (hFinS w os) := by
  have hp := congrFun (hPre w) os
  rw [← @PySem.W.Fast.te15667345088766844465, ← @PySem.W.Fast.te14364793385576792824, ← @PySem.W.Fast.te11892475500146522536] at hp
  refine go_top hp (piece_block (congrFun (hBlock w) os) ?_)
  rw [hBody]
  refine piece_app (hG0 w os) ?_
  refine piece_app (hG1 w os) ?_
  refine piece_app (hG2 w os) ?_
  refine piece_app (hG3 w os) ?_
  refine piece_app (hG4 w os) ?_
  refine piece_app (hG5 w os) ?_
  refine piece_app (hG6 w os) ?_
  refine piece_app (hG7 w os) ?_
  refine piece_app (hG8 w os) ?_
  exact piece_nil (congrFun (hFin w) os)
theorem hLk1 (w : World) : staticsOk (importedModules PySem.Challenge.pw_uc0057_03.main.body) (boot_heap w.params) (hH w.params) = true := by kernel_rfl
theorem hLk2 (w : World) : namesBound PySem.Challenge.pw_uc0057_03 (hH w.params) = true := by kernel_rfl
theorem hLk4 (w : World) : laidKept (boot_heap w.params) (hH w.params) = true := by kernel_rfl
theorem hLk5 (w : World) : (fun os => openSeen qv qLoose (importedModules PySem.Challenge.pw_uc0057_03.main.body) (fun s => xlAt qv [] s && recOk (RowW.records rowC.toRowW) s) true (hFinS w os)) = fun _ => openGood qv qLoose := by kernel_rfl
theorem hLk6 (w : World) : (fun os => hook.obs (hFinS w os)) = fun _ => hook.val w := by kernel_rfl
theorem hHead : LeftO PySem.Challenge.pw_uc0057_03 qv qLoose (fun s => xlAt qv [] s && recOk (RowW.records rowC.toRowW) s) hook.obs hook.val 40000 := by
  refine LeftO.of_pieces hOpen hSize hRun (by decide) (fun w => funext fun os => ?_)
  have h1 : (staticsOk (importedModules PySem.Challenge.pw_uc0057_03.main.body) (boot_heap w.params) (hH w.params) && namesBound PySem.Challenge.pw_uc0057_03 (hH w.params) && gensDone (hFinS w os) && laidKept (boot_heap w.params) (hH w.params)) = true := by
    rw [hLk1, hLk2, hLk4]; rfl
  have h2 := congrFun (hLk5 w) os
  have h3 := congrFun (hLk6 w) os
  exact Prod.ext h1 (Prod.ext h2 h3)
end Uc
end
theorem PySem.Challenge.cw_uc0057_03_holds : PySem.Challenge.rw_uc0057_03.Holds :=
  Uc.head_of Uc.prim Uc.hHead
